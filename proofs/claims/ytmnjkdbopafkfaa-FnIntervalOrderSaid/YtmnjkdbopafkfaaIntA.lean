/- Interval trees in memory: what lies where; heights and greatest ends reckoned anew; turns. For every tree and every world in which it lies. -/
import Derived.Test.YtmnjkdbopafkfaaProg
import Derived.Test.YtmnjkdbopafkfaaWMore
import Derived.Test.YtmnjkdbopafkfaaHk
import Derived.Test.YtmnjkdbopafkfaaIntPure
import Derived.StillTailTactics
namespace Go.Proofs.Ytmnjkdbopafkfaa.Int
open Go Go.RowKit Go.Proofs.Ytmnjkdbopafkfaa.Hk Go.Proofs.Ytmnjkdbopafkfaa.IntPure Go.Proofs.Ytmnjkdbopafkfaa.IntPure.T

/-- A tree with the blocks in which its nodes lie. -/
inductive N where
  | nil
  | node (b : Nat) (s : S) (h m : Int) (l r : N)
def N.ptr : N → Value
  | .nil => .pointer none
  | .node b _ _ _ _ _ => .pointer (some ⟨b, 0, none⟩)
def N.raw : N → T
  | .nil => .nil
  | .node _ s h m l r => .node s h m l.raw r.raw
def N.ids : N → List Nat
  | .nil => []
  | .node b _ _ _ l r => b :: (l.ids ++ r.ids)
/-- A node's cells. -/
abbrev cs (s : S) (h m : Int) (l r : N) : Array Value := #[.int .i64 s.lo, .int .i64 s.hi, .int .i64 s.v, .int .i64 h, l.ptr, r.ptr, .int .i64 m]
def N.In (w : World) : N → Prop
  | .nil => True
  | .node b s h m l r => Blk w b (cs s h m l r) 110 ∧ l.In w ∧ r.In w
theorem N.ptr_some (t : N) : ∃ u, t.ptr = .pointer u := by cases t <;> exact ⟨_, rfl⟩
theorem N.In.lt {w : World} : ∀ {t : N}, t.In w → ∀ b ∈ t.ids, b < w.heap.size
  | .nil, _, b, h => by simp [N.ids] at h
  | .node c s x m l r, ⟨h1, h2, h3⟩, b, h => by
    rcases List.mem_cons.1 h with e | h
    · rw [e]; exact h1.lt
    · rcases List.mem_append.1 h with h | h
      · exact N.In.lt h2 b h
      · exact N.In.lt h3 b h
theorem N.In.fr {Z : Nat → Prop} {w w' : World} (hf : Fr Z w w') : ∀ {t : N}, t.In w → (∀ b ∈ t.ids, ¬ Z b) → t.In w'
  | .nil, _, _ => trivial
  | .node c s x m l r, ⟨h1, h2, h3⟩, hn =>
    ⟨h1.fr hf (hn c (by simp [N.ids])), N.In.fr hf h2 (fun b hb => hn b (by simp [N.ids, hb])), N.In.fr hf h3 (fun b hb => hn b (by simp [N.ids, hb]))⟩
theorem N.In.heap {w w' : World} (hf : w'.heap = w.heap) : ∀ {t : N}, t.In w → t.In w'
  | .nil, _ => trivial
  | .node c s x m l r, ⟨h1, h2, h3⟩ => ⟨by unfold Blk; rw [hf]; exact h1, N.In.heap hf h2, N.In.heap hf h3⟩
theorem N.In.drew {w : World} {t : N} (h : t.In w) : t.In w.drew := N.In.heap (w := w) (w' := w.drew) rfl h
theorem N.In.drewN {w : World} {t : N} (h : t.In w) (n : Nat) : t.In (w.drewN n) := N.In.heap (w := w) (w' := w.drewN n) rfl h
theorem nodup_node {b : Nat} {s : S} {h m : Int} {l r : N} (hn : (N.node b s h m l r).ids.Nodup) : b ∉ l.ids ∧ b ∉ r.ids ∧ l.ids.Nodup ∧ r.ids.Nodup ∧ ∀ x ∈ l.ids, x ∉ r.ids := by
  obtain ⟨h1, h2⟩ := List.nodup_cons.1 hn
  obtain ⟨h3, h4, h5⟩ := List.nodup_append.1 h2
  exact ⟨fun h => h1 (by simp [h]), fun h => h1 (by simp [h]), h3, h4, fun x hx hy => h5 x hx x hy rfl⟩
theorem nodup_mk {b : Nat} {s : S} {h m : Int} {l r : N} (h1 : b ∉ l.ids) (h2 : b ∉ r.ids) (h3 : l.ids.Nodup) (h4 : r.ids.Nodup) (h5 : ∀ x ∈ l.ids, x ∉ r.ids) : (N.node b s h m l r).ids.Nodup :=
  List.nodup_cons.2 ⟨fun h => (List.mem_append.1 h).elim h1 h2, List.nodup_append.2 ⟨h3, h4, fun x hx y hy e => h5 x hx (by rw [e]; exact hy)⟩⟩
theorem fr_one {w : World} {b i : Nat} {v : Value} : Fr (· = b) w (w.setCell ⟨b, i, none⟩ v) := Fr.setCell (S := (· = b)) (Fr.refl _ _) (p := ⟨b, i, none⟩) (fun _ => rfl) _

theorem getHeight_any (t : N) (w : World) (hin : t.In w) : Calls Try.prog 58 #[t.ptr] w fun e w' => e = .returned (.int .i64 t.raw.ht) ∧ w' = w := by
  cases t with
  | nil =>
    show Calls Try.prog 58 #[.pointer none] w _
    go_enter Try.func58, Try.ntmps58
    go_wp2
    go_ret
    exact ⟨rfl, rfl⟩
  | node b s h m l r =>
    have c2 : w.cell? ⟨b, 3, none⟩ = some (.int .i64 h) := hin.1.cell 3
    clear hin
    show Calls Try.prog 58 #[.pointer (some ⟨b, 0, none⟩)] w _
    go_enter Try.func58, Try.ntmps58
    go_wp2
    go_ret
    exact ⟨rfl, rfl⟩
theorem max_any (a b : Int) (w : World) : Calls Try.prog 70 #[.int .i64 a, .int .i64 b] w fun e w' => e = .returned (.int .i64 (mxo a b)) ∧ w' = w := by
  by_cases h : a > b
  · have e : mxo a b = a := if_pos h
    rw [e]
    clear e
    go_enter Try.func70, Try.ntmps70
    go_wp2
    go_ret
    exact ⟨rfl, rfl⟩
  · have e : mxo a b = b := if_neg h
    rw [e]
    clear e
    go_enter Try.func70, Try.ntmps70
    go_wp2
    go_ret
    exact ⟨rfl, rfl⟩
/-- Heights that a sum with a small number does not wrap. -/
def Hb (x : Int) : Prop := 0 ≤ x ∧ x ≤ 4294967000
theorem mxo_bd {a b : Int} {k : Int} (ha : 0 ≤ a ∧ a ≤ k) (hb : 0 ≤ b ∧ b ≤ k) : 0 ≤ mxo a b ∧ mxo a b ≤ k := by rw [mxo_max]; omega

set_option maxHeartbeats 400000 in
set_option maxRecDepth 100000 in
theorem recalc_any (b : Nat) (s : S) (h m : Int) (l r : N) (w : World) (hin : (N.node b s h m l r).In w) (bl : 0 ≤ l.raw.ht ∧ l.raw.ht ≤ 4294967200) (br : 0 ≤ r.raw.ht ∧ r.raw.ht ≤ 4294967200) :
    Calls Try.prog 65 #[.pointer (some ⟨b, 0, none⟩)] w fun e w' => e = .returned (.tuple #[]) ∧ Blk w' b (cs s (1 + mxo l.raw.ht r.raw.ht) m l r) 110 ∧ Fr (· = b) w w' := by
  obtain ⟨hb, hl, hr⟩ := hin
  have c3 : w.cell? ⟨b, 4, none⟩ = some l.ptr := hb.cell 4
  have c4 : w.cell? ⟨b, 5, none⟩ = some r.ptr := hb.cell 5
  have c2 : w.cell? ⟨b, 3, none⟩ = some (.int .i64 h) := hb.cell 3
  have f2 : w.frozen? ⟨b, 3, none⟩ = false := hb.free 3
  have H : Hid (Blk w b (cs s h m l r) 110 ∧ l.In w ∧ r.In w) := ⟨hb, hl, hr⟩
  have hm := mxo_bd bl br
  clear hb hl hr
  go_enter Try.func65, Try.ntmps65
  refine still_tail_drew 15 (by kernel_rfl) (by kernel_rfl) ?_
  simp only [List.take_succ_cons, List.take_zero, List.drop_succ_cons, List.drop_zero]
  repeat still_step
  still_call (getHeight_any l _ H.out.2.1.drew)
  repeat still_step
  still_call (getHeight_any r _ H.out.2.2.drew)
  repeat still_step
  still_call (max_any l.raw.ht r.raw.ht _)
  generalize mxo l.raw.ht r.raw.ht = q at hm ⊢
  repeat still_step
  refine wpStill_nil ?_
  change wpList _ _ _ _ _ w.drew
  go_wp2
  go_end0
  exact ⟨rfl, (H.out.1.set 3 _).drew, (fr_one).drew⟩

/-- What stands while the greatest end is reckoned: the node with some greatest end, its parts as they were. -/
def Um (b : Nat) (s : S) (h : Int) (l r : N) (w : World) (x : Int) (W : World) : Prop := Blk W b (cs s h x l r) 110 ∧ Fr (· = b) w W
theorem um_set {b : Nat} {s : S} {h : Int} {l r : N} {w W : World} {x : Int} (y : Int) (hu : Um b s h l r w x W) : Um b s h l r w y (W.setCell ⟨b, 6, none⟩ (.int .i64 y)) :=
  ⟨hu.1.set 6 _, hu.2.setCell (p := ⟨b, 6, none⟩) (fun _ => rfl) _⟩
theorem um_drew {b : Nat} {s : S} {h : Int} {l r : N} {w W : World} {x : Int} (hu : Um b s h l r w x W) : Um b s h l r w x W.drew := ⟨hu.1.drew, hu.2.drew⟩

set_option maxHeartbeats 800000 in
set_option maxRecDepth 100000 in
theorem upd_nn (b : Nat) (s : S) (h m : Int) (w : World) (hin : (N.node b s h m .nil .nil).In w) :
    Calls Try.prog 66 #[.pointer (some ⟨b, 0, none⟩)] w fun e w' => e = .returned (.tuple #[]) ∧ Um b s h .nil .nil w (upMax (upMax s.hi (N.raw .nil)) (N.raw .nil)) w' := by
  have HU0 : Hid (Um b s h .nil .nil w m w) := ⟨hin.1, Fr.refl _ _⟩
  have c1 : w.cell? ⟨b, 1, none⟩ = some (.int .i64 s.hi) := hin.1.cell 1
  have c6 : w.cell? ⟨b, 6, none⟩ = some (.int .i64 m) := hin.1.cell 6
  have f6 : w.frozen? ⟨b, 6, none⟩ = false := hin.1.free 6
  clear hin
  go_enter Try.func66, Try.ntmps66
  go_upto_region 2 with fail
  have HU1 : Hid _ := um_set s.hi HU0.out
  clear c1 c6 f6 HU0
  generalize w.setCell ⟨b, 6, none⟩ (.int .i64 s.hi) = w1 at HU1 ⊢
  have c5 : w1.cell? ⟨b, 5, none⟩ = some (.pointer none) := HU1.out.1.cell 5
  have c4 : w1.cell? ⟨b, 4, none⟩ = some (.pointer none) := HU1.out.1.cell 4
  go_wp2_with fail
  go_end0
  exact ⟨rfl, HU1.out⟩

set_option maxHeartbeats 800000 in
set_option maxRecDepth 100000 in
theorem upd_ny (b : Nat) (s : S) (h m : Int) (br : Nat) (sr : S) (hr mr : Int) (rl rr : N) (w : World) (hin : (N.node b s h m .nil (.node br sr hr mr rl rr)).In w) (n2 : br ≠ b) :
    Calls Try.prog 66 #[.pointer (some ⟨b, 0, none⟩)] w fun e w' => e = .returned (.tuple #[]) ∧ Um b s h .nil (.node br sr hr mr rl rr) w (upMax (upMax s.hi (N.raw (.node br sr hr mr rl rr))) (N.raw .nil)) w' := by
  have HU0 : Hid (Um b s h .nil (.node br sr hr mr rl rr) w m w) := ⟨hin.1, Fr.refl _ _⟩
  have c1 : w.cell? ⟨b, 1, none⟩ = some (.int .i64 s.hi) := hin.1.cell 1
  have c6 : w.cell? ⟨b, 6, none⟩ = some (.int .i64 m) := hin.1.cell 6
  have f6 : w.frozen? ⟨b, 6, none⟩ = false := hin.1.free 6
  have HR : Hid (Blk w br (cs sr hr mr rl rr) 110 ∧ br ≠ b) := ⟨hin.2.2.1, n2⟩
  clear hin n2
  go_enter Try.func66, Try.ntmps66
  go_upto_region 2 with fail
  have HU1 : Hid _ := um_set s.hi HU0.out
  clear c1 c6 f6 HU0
  generalize w.setCell ⟨b, 6, none⟩ (.int .i64 s.hi) = w1 at HU1 ⊢
  have c5 : w1.cell? ⟨b, 5, none⟩ = some (.pointer (some ⟨br, 0, none⟩)) := HU1.out.1.cell 5
  have c4 : w1.cell? ⟨b, 4, none⟩ = some (.pointer none) := HU1.out.1.cell 4
  have c6 : w1.cell? ⟨b, 6, none⟩ = some (.int .i64 s.hi) := HU1.out.1.cell 6
  have f6 : w1.frozen? ⟨b, 6, none⟩ = false := HU1.out.1.free 6
  have d6 : w1.cell? ⟨br, 6, none⟩ = some (.int .i64 mr) := (HR.out.1.fr HU1.out.2 HR.out.2).cell 6
  have nr := HR.out.2
  go_wp2_with fail
  refine still_tail_drew 15 (by kernel_rfl) (by kernel_rfl) ?_
  simp only [List.take_succ_cons, List.take_zero, List.drop_succ_cons, List.drop_zero]
  repeat still_step
  still_call (max_any (s.hi) mr _)
  repeat still_step
  refine wpStill_nil ?_
  change wpList _ _ _ _ _ (w1).drew
  go_wp2_with fail
  go_end0
  exact ⟨rfl, (um_drew (um_set (mxo (s.hi) mr) (HU1.out)))⟩

set_option maxHeartbeats 800000 in
set_option maxRecDepth 100000 in
theorem upd_yn (b : Nat) (s : S) (h m : Int) (bl : Nat) (sl : S) (hl ml : Int) (ll lr : N) (w : World) (hin : (N.node b s h m (.node bl sl hl ml ll lr) .nil).In w) (n1 : bl ≠ b) :
    Calls Try.prog 66 #[.pointer (some ⟨b, 0, none⟩)] w fun e w' => e = .returned (.tuple #[]) ∧ Um b s h (.node bl sl hl ml ll lr) .nil w (upMax (upMax s.hi (N.raw .nil)) (N.raw (.node bl sl hl ml ll lr))) w' := by
  have HU0 : Hid (Um b s h (.node bl sl hl ml ll lr) .nil w m w) := ⟨hin.1, Fr.refl _ _⟩
  have c1 : w.cell? ⟨b, 1, none⟩ = some (.int .i64 s.hi) := hin.1.cell 1
  have c6 : w.cell? ⟨b, 6, none⟩ = some (.int .i64 m) := hin.1.cell 6
  have f6 : w.frozen? ⟨b, 6, none⟩ = false := hin.1.free 6
  have HL : Hid (Blk w bl (cs sl hl ml ll lr) 110 ∧ bl ≠ b) := ⟨hin.2.1.1, n1⟩
  clear hin n1
  go_enter Try.func66, Try.ntmps66
  go_upto_region 2 with fail
  have HU1 : Hid _ := um_set s.hi HU0.out
  clear c1 c6 f6 HU0
  generalize w.setCell ⟨b, 6, none⟩ (.int .i64 s.hi) = w1 at HU1 ⊢
  have c5 : w1.cell? ⟨b, 5, none⟩ = some (.pointer none) := HU1.out.1.cell 5
  have c4 : w1.cell? ⟨b, 4, none⟩ = some (.pointer (some ⟨bl, 0, none⟩)) := HU1.out.1.cell 4
  have c6 : w1.cell? ⟨b, 6, none⟩ = some (.int .i64 s.hi) := HU1.out.1.cell 6
  have f6 : w1.frozen? ⟨b, 6, none⟩ = false := HU1.out.1.free 6
  have e6 : w1.cell? ⟨bl, 6, none⟩ = some (.int .i64 ml) := (HL.out.1.fr HU1.out.2 HL.out.2).cell 6
  have nl := HL.out.2
  go_wp2_with fail
  refine still_tail_drew 15 (by kernel_rfl) (by kernel_rfl) ?_
  simp only [List.take_succ_cons, List.take_zero, List.drop_succ_cons, List.drop_zero]
  repeat still_step
  still_call (max_any (s.hi) ml _)
  repeat still_step
  refine wpStill_nil ?_
  change wpList _ _ _ _ _ (w1).drew
  go_wp2_with fail
  go_end0
  exact ⟨rfl, (um_drew (um_set (mxo (s.hi) ml) (HU1.out)))⟩

set_option maxHeartbeats 800000 in
set_option maxRecDepth 100000 in
theorem upd_yy (b : Nat) (s : S) (h m : Int) (bl : Nat) (sl : S) (hl ml : Int) (ll lr : N) (br : Nat) (sr : S) (hr mr : Int) (rl rr : N) (w : World) (hin : (N.node b s h m (.node bl sl hl ml ll lr) (.node br sr hr mr rl rr)).In w) (n1 : bl ≠ b) (n2 : br ≠ b) :
    Calls Try.prog 66 #[.pointer (some ⟨b, 0, none⟩)] w fun e w' => e = .returned (.tuple #[]) ∧ Um b s h (.node bl sl hl ml ll lr) (.node br sr hr mr rl rr) w (upMax (upMax s.hi (N.raw (.node br sr hr mr rl rr))) (N.raw (.node bl sl hl ml ll lr))) w' := by
  have HU0 : Hid (Um b s h (.node bl sl hl ml ll lr) (.node br sr hr mr rl rr) w m w) := ⟨hin.1, Fr.refl _ _⟩
  have c1 : w.cell? ⟨b, 1, none⟩ = some (.int .i64 s.hi) := hin.1.cell 1
  have c6 : w.cell? ⟨b, 6, none⟩ = some (.int .i64 m) := hin.1.cell 6
  have f6 : w.frozen? ⟨b, 6, none⟩ = false := hin.1.free 6
  have HL : Hid (Blk w bl (cs sl hl ml ll lr) 110 ∧ bl ≠ b) := ⟨hin.2.1.1, n1⟩
  have HR : Hid (Blk w br (cs sr hr mr rl rr) 110 ∧ br ≠ b) := ⟨hin.2.2.1, n2⟩
  clear hin n1 n2
  go_enter Try.func66, Try.ntmps66
  go_upto_region 2 with fail
  have HU1 : Hid _ := um_set s.hi HU0.out
  clear c1 c6 f6 HU0
  generalize w.setCell ⟨b, 6, none⟩ (.int .i64 s.hi) = w1 at HU1 ⊢
  have c5 : w1.cell? ⟨b, 5, none⟩ = some (.pointer (some ⟨br, 0, none⟩)) := HU1.out.1.cell 5
  have c4 : w1.cell? ⟨b, 4, none⟩ = some (.pointer (some ⟨bl, 0, none⟩)) := HU1.out.1.cell 4
  have c6 : w1.cell? ⟨b, 6, none⟩ = some (.int .i64 s.hi) := HU1.out.1.cell 6
  have f6 : w1.frozen? ⟨b, 6, none⟩ = false := HU1.out.1.free 6
  have d6 : w1.cell? ⟨br, 6, none⟩ = some (.int .i64 mr) := (HR.out.1.fr HU1.out.2 HR.out.2).cell 6
  have nr := HR.out.2
  have e6 : w1.cell? ⟨bl, 6, none⟩ = some (.int .i64 ml) := (HL.out.1.fr HU1.out.2 HL.out.2).cell 6
  have nl := HL.out.2
  go_wp2_with fail
  refine still_tail_drew 15 (by kernel_rfl) (by kernel_rfl) ?_
  simp only [List.take_succ_cons, List.take_zero, List.drop_succ_cons, List.drop_zero]
  repeat still_step
  still_call (max_any (s.hi) mr _)
  repeat still_step
  refine wpStill_nil ?_
  change wpList _ _ _ _ _ (w1).drew
  go_wp2_with fail
  refine still_tail_drew 15 (by kernel_rfl) (by kernel_rfl) ?_
  simp only [List.take_succ_cons, List.take_zero, List.drop_succ_cons, List.drop_zero]
  repeat still_step
  still_call (max_any ((mxo (s.hi) mr)) ml _)
  repeat still_step
  refine wpStill_nil ?_
  change wpList _ _ _ _ _ (((w1).setCell ⟨b, 6, none⟩ (.int .i64 (mxo (s.hi) mr))).drew).drew
  go_wp2_with fail
  go_end0
  exact ⟨rfl, (um_drew (um_set (mxo ((mxo (s.hi) mr)) ml) ((um_drew (um_set (mxo (s.hi) mr) (HU1.out))))))⟩

theorem updMax_any (b : Nat) (s : S) (h m : Int) (l r : N) (w : World) (hin : (N.node b s h m l r).In w) (n1 : b ∉ l.ids) (n2 : b ∉ r.ids) :
    Calls Try.prog 66 #[.pointer (some ⟨b, 0, none⟩)] w fun e w' => e = .returned (.tuple #[]) ∧ Blk w' b (cs s h (upMax (upMax s.hi r.raw) l.raw) l r) 110 ∧ Fr (· = b) w w' := by
  cases l with
  | nil =>
    cases r with
    | nil => exact upd_nn b s h m w hin
    | node br sr hr mr rl rr => exact upd_ny b s h m br sr hr mr rl rr w hin (fun e => n2 (by simp [N.ids, e]))
  | node bl sl hl ml ll lr =>
    cases r with
    | nil => exact upd_yn b s h m bl sl hl ml ll lr w hin (fun e => n1 (by simp [N.ids, e]))
    | node br sr hr mr rl rr => exact upd_yy b s h m bl sl hl ml ll lr br sr hr mr rl rr w hin (fun e => n1 (by simp [N.ids, e])) (fun e => n2 (by simp [N.ids, e]))

/-- A node with its height, and its greatest end, reckoned anew. -/
def N.mk (b : Nat) (s : S) (l r : N) : N := .node b s (1 + mxo l.raw.ht r.raw.ht) (upMax (upMax s.hi r.raw) l.raw) l r
theorem raw_mk (b : Nat) (s : S) (l r : N) : (N.mk b s l r).raw = T.mk s l.raw r.raw := rfl
theorem ids_mk (b : Nat) (s : S) (l r : N) : (N.mk b s l r).ids = b :: (l.ids ++ r.ids) := rfl
theorem ht_mk (b : Nat) (s : S) (l r : N) : (N.mk b s l r).raw.ht = 1 + mxo l.raw.ht r.raw.ht := rfl
def N.turnL : N → N
  | .node b s _ _ l (.node b2 s2 _ _ rl rr) => N.mk b2 s2 (N.mk b s l rl) rr
  | t => t
def N.turnR : N → N
  | .node b s _ _ (.node b2 s2 _ _ ll lr) r => N.mk b2 s2 ll (N.mk b s lr r)
  | t => t
theorem raw_turnL {b : Nat} {s : S} {h m : Int} {l : N} {b2 : Nat} {s2 : S} {h2 m2 : Int} {rl rr : N} : (N.turnL (.node b s h m l (.node b2 s2 h2 m2 rl rr))).raw = T.rotL (N.node b s h m l (.node b2 s2 h2 m2 rl rr)).raw := rfl
theorem raw_turnR {b : Nat} {s : S} {h m : Int} {r : N} {b2 : Nat} {s2 : S} {h2 m2 : Int} {ll lr : N} : (N.turnR (.node b s h m (.node b2 s2 h2 m2 ll lr) r)).raw = T.rotR (N.node b s h m (.node b2 s2 h2 m2 ll lr) r).raw := rfl

set_option maxHeartbeats 1600000 in
theorem rotL_any (b : Nat) (s : S) (h m : Int) (l : N) (b2 : Nat) (s2 : S) (h2 m2 : Int) (rl rr : N) (w : World) (hin : (N.node b s h m l (.node b2 s2 h2 m2 rl rr)).In w) (nd : (N.node b s h m l (.node b2 s2 h2 m2 rl rr)).ids.Nodup) (bo : Hb l.raw.ht) (bA : Hb rl.raw.ht) (bB : Hb rr.raw.ht) :
    Calls Try.prog 68 #[.pointer (some ⟨b, 0, none⟩)] w fun e w' => e = .returned (.pointer (some ⟨b2, 0, none⟩)) ∧ (N.turnL (.node b s h m l (.node b2 s2 h2 m2 rl rr))).In w' ∧ Fr (fun n => n = b ∨ n = b2) w w' := by
  unfold Hb at bo bA bB
  obtain ⟨hb, ho, hb2, hA, hB⟩ := hin
  obtain ⟨n1, n2, n3, n4, n5⟩ := nodup_node nd
  obtain ⟨m1, m2', m3, m4, m5⟩ := nodup_node n4
  have hne : b ≠ b2 := fun e => n2 (by simp [N.ids, e])
  have hne' : b2 ≠ b := fun e => hne e.symm
  have hbA : b ∉ rl.ids := fun hx => n2 (by simp [N.ids, hx])
  have hbB : b ∉ rr.ids := fun hx => n2 (by simp [N.ids, hx])
  have hbO : b ∉ l.ids := n1
  have h2A : b2 ∉ rl.ids := m1
  have h2B : b2 ∉ rr.ids := m2'
  have h2O : b2 ∉ l.ids := fun hx => n5 b2 hx (by simp [N.ids])
  obtain ⟨u, hu⟩ := rl.ptr_some
  have c4 : w.cell? ⟨b, 5, none⟩ = some (.pointer (some ⟨b2, 0, none⟩)) := hb.cell 5
  have d3 : w.cell? ⟨b2, 4, none⟩ = some (.pointer u) := by rw [← hu]; exact hb2.cell 4
  have f4 : w.frozen? ⟨b, 5, none⟩ = false := hb.free 5
  have g3 : w.frozen? ⟨b2, 4, none⟩ = false := hb2.free 4
  have F1 : Fr (fun n => n = b ∨ n = b2) w ((w.setCell ⟨b, 5, none⟩ (.pointer u)).setCell ⟨b2, 4, none⟩ (.pointer (some ⟨b, 0, none⟩))) :=
    Fr.setCell (Fr.setCell (Fr.refl _ _) (p := ⟨b, 5, none⟩) (fun _ => .inl rfl) _) (p := ⟨b2, 4, none⟩) (fun _ => .inr rfl) _
  have B1 : Blk ((w.setCell ⟨b, 5, none⟩ (.pointer u)).setCell ⟨b2, 4, none⟩ (.pointer (some ⟨b, 0, none⟩))) b (cs s h m l rl) 110 := by
    have := (hb.set 5 (.pointer u)).other ⟨b2, 4, none⟩ (.pointer (some ⟨b, 0, none⟩)) hne
    rw [← hu] at this ⊢; exact this
  have B2 : Blk ((w.setCell ⟨b, 5, none⟩ (.pointer u)).setCell ⟨b2, 4, none⟩ (.pointer (some ⟨b, 0, none⟩))) b2 #[.int .i64 s2.lo, .int .i64 s2.hi, .int .i64 s2.v, .int .i64 h2, .pointer (some ⟨b, 0, none⟩), rr.ptr, .int .i64 m2] 110 :=
    (hb2.other ⟨b, 5, none⟩ _ hne').set 4 _
  have HX : Hid _ := (⟨F1, B1, B2, N.In.fr F1 ho (fun x hx h => h.elim (fun e => hbO (e ▸ hx)) (fun e => h2O (e ▸ hx))), N.In.fr F1 hA (fun x hx h => h.elim (fun e => hbA (e ▸ hx)) (fun e => h2A (e ▸ hx))),
    N.In.fr F1 hB (fun x hx h => h.elim (fun e => hbB (e ▸ hx)) (fun e => h2B (e ▸ hx)))⟩ : _ ∧ _ ∧ _ ∧ _ ∧ _ ∧ _)
  have HN : Hid (b ≠ b2 ∧ b ∉ rl.ids ∧ b ∉ rr.ids ∧ b ∉ l.ids ∧ b2 ∉ rl.ids ∧ b2 ∉ rr.ids ∧ b2 ∉ l.ids) := ⟨hne, hbA, hbB, hbO, h2A, h2B, h2O⟩
  have hq := mxo_bd (k := 4294967000) bo bA
  clear F1 B1 B2 hb hb2 ho hA hB nd n1 n2 n3 n4 n5 m1 m2' m3 m4 m5 hbA hbB hbO h2A h2B h2O hu
  go_enter Try.func68, Try.ntmps68
  go_wp2_with fail
  clear c4 d3 f4 g3 hne hne'
  generalize (w.setCell ⟨b, 5, none⟩ (.pointer u)).setCell ⟨b2, 4, none⟩ (.pointer (some ⟨b, 0, none⟩)) = w0 at HX ⊢
  refine (recalc_any b s h m l rl w0 ⟨HX.out.2.1, HX.out.2.2.2.1, HX.out.2.2.2.2.1⟩ (by omega) (by omega)).mono ?_
  rintro e w1 ⟨rfl, B1, F1⟩
  have HY : Hid _ := (⟨B1, F1, HX.out.2.2.1.fr F1 (fun e => HN.out.1 e.symm), N.In.fr F1 HX.out.2.2.2.1 (fun x hx e => HN.out.2.2.2.1 (e ▸ hx)), N.In.fr F1 HX.out.2.2.2.2.1 (fun x hx e => HN.out.2.1 (e ▸ hx)), N.In.fr F1 HX.out.2.2.2.2.2 (fun x hx e => HN.out.2.2.1 (e ▸ hx))⟩ : _ ∧ _ ∧ _ ∧ _ ∧ _ ∧ _)
  clear B1 F1
  go_wp2_with fail
  refine (updMax_any b s (1 + mxo l.raw.ht rl.raw.ht) m l rl w1 ⟨HY.out.1, HY.out.2.2.2.1, HY.out.2.2.2.2.1⟩ HN.out.2.2.2.1 HN.out.2.1).mono ?_
  rintro e w2 ⟨rfl, B1, F1⟩
  have HZ : Hid _ := (⟨(show N.In w2 (N.mk b s l rl) from ⟨B1, N.In.fr F1 HY.out.2.2.2.1 (fun x hx e => HN.out.2.2.2.1 (e ▸ hx)), N.In.fr F1 HY.out.2.2.2.2.1 (fun x hx e => HN.out.2.1 (e ▸ hx))⟩), F1, HY.out.2.2.1.fr F1 (fun e => HN.out.1 e.symm), N.In.fr F1 HY.out.2.2.2.2.2 (fun x hx e => HN.out.2.2.1 (e ▸ hx))⟩ : _ ∧ _ ∧ _ ∧ _)
  clear B1 F1
  go_wp2_with fail
  refine (recalc_any b2 s2 h2 m2 (N.mk b s l rl) rr w2 ⟨HZ.out.2.2.1, HZ.out.1, HZ.out.2.2.2⟩ (by first | (rw [ht_mk]; omega) | omega) (by first | (rw [ht_mk]; omega) | omega)).mono ?_
  rintro e w3 ⟨rfl, B1, F1⟩
  have hin2 : b2 ∉ N.ids (N.mk b s l rl) := fun hx => by
    rcases List.mem_cons.1 hx with e | hx
    · exact HN.out.1 e.symm
    · rcases List.mem_append.1 hx with hx | hx
      · exact HN.out.2.2.2.2.2.2 hx
      · exact HN.out.2.2.2.2.1 hx
  have HV : Hid _ := (⟨B1, F1, N.In.fr F1 HZ.out.1 (fun x hx e => hin2 (e ▸ hx)), N.In.fr F1 HZ.out.2.2.2 (fun x hx e => HN.out.2.2.2.2.2.1 (e ▸ hx)), hin2⟩ : _ ∧ _ ∧ _ ∧ _ ∧ _)
  clear B1 F1 hin2
  go_wp2_with fail
  refine (updMax_any b2 s2 (1 + mxo (N.raw (N.mk b s l rl)).ht rr.raw.ht) m2 (N.mk b s l rl) rr w3 ⟨HV.out.1, HV.out.2.2.1, HV.out.2.2.2.1⟩ HV.out.2.2.2.2 HN.out.2.2.2.2.2.1).mono ?_
  rintro e w4 ⟨rfl, B1, F1⟩
  have HO : Hid _ := (⟨B1, F1⟩ : _ ∧ _)
  clear B1 F1
  go_wp2_with fail
  go_ret
  obtain ⟨B1, F1⟩ := HO.out
  refine ⟨rfl, ⟨B1, N.In.fr F1 HV.out.2.2.1 (fun x hx e => HV.out.2.2.2.2 (e ▸ hx)), N.In.fr F1 HV.out.2.2.2.1 (fun x hx e => HN.out.2.2.2.2.2.1 (e ▸ hx))⟩, ?_⟩
  exact (((HX.out.1.trans HY.out.2.1 (fun n _ e => .inl e)).trans HZ.out.2.1 (fun n _ e => .inl e)).trans HV.out.2.1 (fun n _ e => .inr e)).trans F1 (fun n _ e => .inr e)

set_option maxHeartbeats 1600000 in
theorem rotR_any (b : Nat) (s : S) (h m : Int) (r : N) (b2 : Nat) (s2 : S) (h2 m2 : Int) (ll lr : N) (w : World) (hin : (N.node b s h m (.node b2 s2 h2 m2 ll lr) r).In w) (nd : (N.node b s h m (.node b2 s2 h2 m2 ll lr) r).ids.Nodup) (bo : Hb r.raw.ht) (bA : Hb lr.raw.ht) (bB : Hb ll.raw.ht) :
    Calls Try.prog 67 #[.pointer (some ⟨b, 0, none⟩)] w fun e w' => e = .returned (.pointer (some ⟨b2, 0, none⟩)) ∧ (N.turnR (.node b s h m (.node b2 s2 h2 m2 ll lr) r)).In w' ∧ Fr (fun n => n = b ∨ n = b2) w w' := by
  unfold Hb at bo bA bB
  obtain ⟨hb, ⟨hb2, hB, hA⟩, ho⟩ := hin
  obtain ⟨n1, n2, n3, n4, n5⟩ := nodup_node nd
  obtain ⟨m1, m2', m3, m4, m5⟩ := nodup_node n3
  have hne : b ≠ b2 := fun e => n1 (by simp [N.ids, e])
  have hne' : b2 ≠ b := fun e => hne e.symm
  have hbA : b ∉ lr.ids := fun hx => n1 (by simp [N.ids, hx])
  have hbB : b ∉ ll.ids := fun hx => n1 (by simp [N.ids, hx])
  have hbO : b ∉ r.ids := n2
  have h2A : b2 ∉ lr.ids := m2'
  have h2B : b2 ∉ ll.ids := m1
  have h2O : b2 ∉ r.ids := fun hx => n5 b2 (by simp [N.ids]) hx
  obtain ⟨u, hu⟩ := lr.ptr_some
  have c4 : w.cell? ⟨b, 4, none⟩ = some (.pointer (some ⟨b2, 0, none⟩)) := hb.cell 4
  have d3 : w.cell? ⟨b2, 5, none⟩ = some (.pointer u) := by rw [← hu]; exact hb2.cell 5
  have f4 : w.frozen? ⟨b, 4, none⟩ = false := hb.free 4
  have g3 : w.frozen? ⟨b2, 5, none⟩ = false := hb2.free 5
  have F1 : Fr (fun n => n = b ∨ n = b2) w ((w.setCell ⟨b, 4, none⟩ (.pointer u)).setCell ⟨b2, 5, none⟩ (.pointer (some ⟨b, 0, none⟩))) :=
    Fr.setCell (Fr.setCell (Fr.refl _ _) (p := ⟨b, 4, none⟩) (fun _ => .inl rfl) _) (p := ⟨b2, 5, none⟩) (fun _ => .inr rfl) _
  have B1 : Blk ((w.setCell ⟨b, 4, none⟩ (.pointer u)).setCell ⟨b2, 5, none⟩ (.pointer (some ⟨b, 0, none⟩))) b (cs s h m lr r) 110 := by
    have := (hb.set 4 (.pointer u)).other ⟨b2, 5, none⟩ (.pointer (some ⟨b, 0, none⟩)) hne
    rw [← hu] at this ⊢; exact this
  have B2 : Blk ((w.setCell ⟨b, 4, none⟩ (.pointer u)).setCell ⟨b2, 5, none⟩ (.pointer (some ⟨b, 0, none⟩))) b2 #[.int .i64 s2.lo, .int .i64 s2.hi, .int .i64 s2.v, .int .i64 h2, ll.ptr, .pointer (some ⟨b, 0, none⟩), .int .i64 m2] 110 :=
    (hb2.other ⟨b, 4, none⟩ _ hne').set 5 _
  have HX : Hid _ := (⟨F1, B1, B2, N.In.fr F1 ho (fun x hx h => h.elim (fun e => hbO (e ▸ hx)) (fun e => h2O (e ▸ hx))), N.In.fr F1 hA (fun x hx h => h.elim (fun e => hbA (e ▸ hx)) (fun e => h2A (e ▸ hx))),
    N.In.fr F1 hB (fun x hx h => h.elim (fun e => hbB (e ▸ hx)) (fun e => h2B (e ▸ hx)))⟩ : _ ∧ _ ∧ _ ∧ _ ∧ _ ∧ _)
  have HN : Hid (b ≠ b2 ∧ b ∉ lr.ids ∧ b ∉ ll.ids ∧ b ∉ r.ids ∧ b2 ∉ lr.ids ∧ b2 ∉ ll.ids ∧ b2 ∉ r.ids) := ⟨hne, hbA, hbB, hbO, h2A, h2B, h2O⟩
  have hq := mxo_bd (k := 4294967000) bA bo
  clear F1 B1 B2 hb hb2 ho hA hB nd n1 n2 n3 n4 n5 m1 m2' m3 m4 m5 hbA hbB hbO h2A h2B h2O hu
  go_enter Try.func67, Try.ntmps67
  go_wp2_with fail
  clear c4 d3 f4 g3 hne hne'
  generalize (w.setCell ⟨b, 4, none⟩ (.pointer u)).setCell ⟨b2, 5, none⟩ (.pointer (some ⟨b, 0, none⟩)) = w0 at HX ⊢
  refine (recalc_any b s h m lr r w0 ⟨HX.out.2.1, HX.out.2.2.2.2.1, HX.out.2.2.2.1⟩ (by omega) (by omega)).mono ?_
  rintro e w1 ⟨rfl, B1, F1⟩
  have HY : Hid _ := (⟨B1, F1, HX.out.2.2.1.fr F1 (fun e => HN.out.1 e.symm), N.In.fr F1 HX.out.2.2.2.1 (fun x hx e => HN.out.2.2.2.1 (e ▸ hx)), N.In.fr F1 HX.out.2.2.2.2.1 (fun x hx e => HN.out.2.1 (e ▸ hx)), N.In.fr F1 HX.out.2.2.2.2.2 (fun x hx e => HN.out.2.2.1 (e ▸ hx))⟩ : _ ∧ _ ∧ _ ∧ _ ∧ _ ∧ _)
  clear B1 F1
  go_wp2_with fail
  refine (updMax_any b s (1 + mxo lr.raw.ht r.raw.ht) m lr r w1 ⟨HY.out.1, HY.out.2.2.2.2.1, HY.out.2.2.2.1⟩ HN.out.2.1 HN.out.2.2.2.1).mono ?_
  rintro e w2 ⟨rfl, B1, F1⟩
  have HZ : Hid _ := (⟨(show N.In w2 (N.mk b s lr r) from ⟨B1, N.In.fr F1 HY.out.2.2.2.2.1 (fun x hx e => HN.out.2.1 (e ▸ hx)), N.In.fr F1 HY.out.2.2.2.1 (fun x hx e => HN.out.2.2.2.1 (e ▸ hx))⟩), F1, HY.out.2.2.1.fr F1 (fun e => HN.out.1 e.symm), N.In.fr F1 HY.out.2.2.2.2.2 (fun x hx e => HN.out.2.2.1 (e ▸ hx))⟩ : _ ∧ _ ∧ _ ∧ _)
  clear B1 F1
  go_wp2_with fail
  refine (recalc_any b2 s2 h2 m2 ll (N.mk b s lr r) w2 ⟨HZ.out.2.2.1, HZ.out.2.2.2, HZ.out.1⟩ (by first | (rw [ht_mk]; omega) | omega) (by first | (rw [ht_mk]; omega) | omega)).mono ?_
  rintro e w3 ⟨rfl, B1, F1⟩
  have hin2 : b2 ∉ N.ids (N.mk b s lr r) := fun hx => by
    rcases List.mem_cons.1 hx with e | hx
    · exact HN.out.1 e.symm
    · rcases List.mem_append.1 hx with hx | hx
      · exact HN.out.2.2.2.2.1 hx
      · exact HN.out.2.2.2.2.2.2 hx
  have HV : Hid _ := (⟨B1, F1, N.In.fr F1 HZ.out.1 (fun x hx e => hin2 (e ▸ hx)), N.In.fr F1 HZ.out.2.2.2 (fun x hx e => HN.out.2.2.2.2.2.1 (e ▸ hx)), hin2⟩ : _ ∧ _ ∧ _ ∧ _ ∧ _)
  clear B1 F1 hin2
  go_wp2_with fail
  refine (updMax_any b2 s2 (1 + mxo ll.raw.ht (N.raw (N.mk b s lr r)).ht) m2 ll (N.mk b s lr r) w3 ⟨HV.out.1, HV.out.2.2.2.1, HV.out.2.2.1⟩ HN.out.2.2.2.2.2.1 HV.out.2.2.2.2).mono ?_
  rintro e w4 ⟨rfl, B1, F1⟩
  have HO : Hid _ := (⟨B1, F1⟩ : _ ∧ _)
  clear B1 F1
  go_wp2_with fail
  go_ret
  obtain ⟨B1, F1⟩ := HO.out
  refine ⟨rfl, ⟨B1, N.In.fr F1 HV.out.2.2.2.1 (fun x hx e => HN.out.2.2.2.2.2.1 (e ▸ hx)), N.In.fr F1 HV.out.2.2.1 (fun x hx e => HV.out.2.2.2.2 (e ▸ hx))⟩, ?_⟩
  exact (((HX.out.1.trans HY.out.2.1 (fun n _ e => .inl e)).trans HZ.out.2.1 (fun n _ e => .inl e)).trans HV.out.2.1 (fun n _ e => .inr e)).trans F1 (fun n _ e => .inr e)

theorem perm_turnL (t : N) : t.turnL.ids.Perm t.ids := by
  cases t with
  | nil => exact List.Perm.refl _
  | node b s h m l r =>
    cases r with
    | nil => exact List.Perm.refl _
    | node b2 s2 h2 m2 rl rr =>
      simp only [N.turnL, N.ids, N.mk]
      rw [List.perm_iff_count]; intro a; simp only [List.count_cons, List.count_append]; omega
theorem perm_turnR (t : N) : t.turnR.ids.Perm t.ids := by
  cases t with
  | nil => exact List.Perm.refl _
  | node b s h m l r =>
    cases l with
    | nil => exact List.Perm.refl _
    | node b2 s2 h2 m2 ll lr =>
      simp only [N.turnR, N.ids, N.mk]
      rw [List.perm_iff_count]; intro a; simp only [List.count_cons, List.count_append]; omega

end Go.Proofs.Ytmnjkdbopafkfaa.Int
