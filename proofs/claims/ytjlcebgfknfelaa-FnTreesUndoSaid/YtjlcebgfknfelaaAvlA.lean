/- AVL trees in memory: what lies where, and the contracts of the functions that turn them. For every tree and every world in which it lies. -/
import Derived.Test.YtjlcebgfknfelaaProg
import Derived.Test.YtjlcebgfknfelaaWMore
import Derived.Test.YtjlcebgfknfelaaHk
import Derived.Test.YtjlcebgfknfelaaAvlPure
import Derived.StillTailTactics
namespace Go.Proofs.Ytjlcebgfknfelaa.Avl
open Go Go.RowKit Go.Proofs.Ytjlcebgfknfelaa.Hk Go.Proofs.Ytjlcebgfknfelaa.AvlPure

/-- A tree with the blocks in which its nodes lie. -/
inductive N where
  | nil
  | node (b : Nat) (k v h : Int) (l r : N)

def N.ptr : N → Value
  | .nil => .pointer none
  | .node b _ _ _ _ _ => .pointer (some ⟨b, 0, none⟩)

def N.raw : N → T
  | .nil => .nil
  | .node _ k v h l r => .node k v h l.raw r.raw

def N.ids : N → List Nat
  | .nil => []
  | .node b _ _ _ l r => b :: (l.ids ++ r.ids)

def N.In (w : World) : N → Prop
  | .nil => True
  | .node b k v h l r => Blk w b #[.int .i64 k, .int .i64 v, .int .i64 h, l.ptr, r.ptr] 119 ∧ l.In w ∧ r.In w

theorem N.ptr_some (t : N) : ∃ u, t.ptr = .pointer u := by cases t <;> exact ⟨_, rfl⟩

theorem N.In.lt {w : World} : ∀ {t : N}, t.In w → ∀ b ∈ t.ids, b < w.heap.size
  | .nil, _, b, h => by simp [N.ids] at h
  | .node c k v x l r, ⟨h1, h2, h3⟩, b, h => by
    rcases List.mem_cons.1 h with e | h
    · rw [e]; exact h1.lt
    · rcases List.mem_append.1 h with h | h
      · exact N.In.lt h2 b h
      · exact N.In.lt h3 b h

theorem N.In.fr {S : Nat → Prop} {w w' : World} (hf : Fr S w w') : ∀ {t : N}, t.In w → (∀ b ∈ t.ids, ¬ S b) → t.In w'
  | .nil, _, _ => trivial
  | .node c k v x l r, ⟨h1, h2, h3⟩, hn =>
    ⟨h1.fr hf (hn c (by simp [N.ids])), N.In.fr hf h2 (fun b hb => hn b (by simp [N.ids, hb])), N.In.fr hf h3 (fun b hb => hn b (by simp [N.ids, hb]))⟩

theorem N.In.heap {w w' : World} (hf : w'.heap = w.heap) : ∀ {t : N}, t.In w → t.In w'
  | .nil, _ => trivial
  | .node c k v x l r, ⟨h1, h2, h3⟩ => ⟨by unfold Blk; rw [hf]; exact h1, N.In.heap hf h2, N.In.heap hf h3⟩

theorem N.In.drew {w : World} {t : N} (h : t.In w) : t.In w.drew := N.In.heap (w := w) (w' := w.drew) rfl h

theorem nodup_node {b : Nat} {k v h : Int} {l r : N} (hn : (N.node b k v h l r).ids.Nodup) :
    b ∉ l.ids ∧ b ∉ r.ids ∧ l.ids.Nodup ∧ r.ids.Nodup ∧ ∀ x ∈ l.ids, x ∉ r.ids := by
  obtain ⟨h1, h2⟩ := List.nodup_cons.1 hn
  obtain ⟨h3, h4, h5⟩ := List.nodup_append.1 h2
  exact ⟨fun h => h1 (by simp [h]), fun h => h1 (by simp [h]), h3, h4, fun x hx hy => h5 x hx x hy rfl⟩

theorem nodup_mk {b : Nat} {k v h : Int} {l r : N} (h1 : b ∉ l.ids) (h2 : b ∉ r.ids) (h3 : l.ids.Nodup) (h4 : r.ids.Nodup) (h5 : ∀ x ∈ l.ids, x ∉ r.ids) : (N.node b k v h l r).ids.Nodup :=
  List.nodup_cons.2 ⟨fun h => (List.mem_append.1 h).elim h1 h2, List.nodup_append.2 ⟨h3, h4, fun x hx y hy e => h5 x hx (by rw [e]; exact hy)⟩⟩

theorem getHeight_any (t : N) (w : World) (hin : t.In w) :
    Calls Try.prog 81 #[t.ptr] w fun e w' => e = .returned (.int .i64 t.raw.ht) ∧ w' = w := by
  cases t with
  | nil =>
    show Calls Try.prog 81 #[.pointer none] w _
    go_enter Try.func81, Try.ntmps81
    go_wp2
    go_ret
    exact ⟨rfl, rfl⟩
  | node b k v h l r =>
    have c2 : w.cell? ⟨b, 2, none⟩ = some (.int .i64 h) := hin.1.cell 2
    clear hin
    show Calls Try.prog 81 #[.pointer (some ⟨b, 0, none⟩)] w _
    go_enter Try.func81, Try.ntmps81
    go_wp2
    go_ret
    exact ⟨rfl, rfl⟩

theorem max_any (a b : Int) (w : World) :
    Calls Try.prog 95 #[.int .i64 a, .int .i64 b] w fun e w' => e = .returned (.int .i64 (max a b)) ∧ w' = w := by
  by_cases h : a > b
  · have e : max a b = a := by omega
    rw [e]
    clear e
    go_enter Try.func95, Try.ntmps95
    go_wp2
    go_ret
    exact ⟨rfl, rfl⟩
  · have e : max a b = b := by omega
    rw [e]
    clear e
    go_enter Try.func95, Try.ntmps95
    go_wp2
    go_ret
    exact ⟨rfl, rfl⟩

/-- Heights that a sum with a small number does not wrap. -/
def Hb (x : Int) : Prop := 0 ≤ x ∧ x ≤ 4294967000

set_option maxHeartbeats 400000 in
set_option maxRecDepth 100000 in
theorem recalc_any (b : Nat) (k v h : Int) (l r : N) (w : World) (hin : (N.node b k v h l r).In w) (bl : 0 ≤ l.raw.ht ∧ l.raw.ht ≤ 4294967200) (br : 0 ≤ r.raw.ht ∧ r.raw.ht ≤ 4294967200) :
    Calls Try.prog 80 #[.pointer (some ⟨b, 0, none⟩)] w fun e w' => e = .returned (.tuple #[]) ∧
      Blk w' b #[.int .i64 k, .int .i64 v, .int .i64 (1 + max l.raw.ht r.raw.ht), l.ptr, r.ptr] 119 ∧ Fr (· = b) w w' := by
  obtain ⟨hb, hl, hr⟩ := hin
  have c3 : w.cell? ⟨b, 3, none⟩ = some l.ptr := hb.cell 3
  have c4 : w.cell? ⟨b, 4, none⟩ = some r.ptr := hb.cell 4
  have c2 : w.cell? ⟨b, 2, none⟩ = some (.int .i64 h) := hb.cell 2
  have f2 : w.frozen? ⟨b, 2, none⟩ = false := hb.free 2
  have H : Hid (Blk w b #[.int .i64 k, .int .i64 v, .int .i64 h, l.ptr, r.ptr] 119 ∧ l.In w ∧ r.In w) := ⟨hb, hl, hr⟩
  clear hb hl hr
  go_enter Try.func80, Try.ntmps80
  refine wp_region_still_tail 15 (by kernel_rfl) (by kernel_rfl) ?_
  simp only [List.take_succ_cons, List.take_zero, List.drop_succ_cons, List.drop_zero]
  repeat still_step
  still_call (getHeight_any l _ H.out.2.1.drew)
  repeat still_step
  still_call (getHeight_any r _ H.out.2.2.drew)
  repeat still_step
  still_call (max_any l.raw.ht r.raw.ht _)
  have hm : 0 ≤ max l.raw.ht r.raw.ht ∧ max l.raw.ht r.raw.ht ≤ 4294967200 := by omega
  generalize max l.raw.ht r.raw.ht = m at hm ⊢
  repeat still_step
  refine wpStill_nil ?_
  change wpList _ _ _ _ _ w.drew
  go_wp2
  go_end0
  exact ⟨rfl, (H.out.1.set 2 _).drew, (Fr.setCell (S := (· = b)) (Fr.refl _ _) (p := ⟨b, 2, none⟩) (fun _ => rfl) _).drew⟩

/-- The turn to the left, of memory. -/
def N.turnL : N → N
  | .node b k v _ l (.node b2 k2 v2 _ rl rr) => .node b2 k2 v2 (1 + max (1 + max l.raw.ht rl.raw.ht) rr.raw.ht) (.node b k v (1 + max l.raw.ht rl.raw.ht) l rl) rr
  | t => t

def N.turnR : N → N
  | .node b k v _ (.node b2 k2 v2 _ ll lr) r => .node b2 k2 v2 (1 + max ll.raw.ht (1 + max lr.raw.ht r.raw.ht)) ll (.node b k v (1 + max lr.raw.ht r.raw.ht) lr r)
  | t => t

theorem raw_turnL {b : Nat} {k v h : Int} {l : N} {b2 : Nat} {k2 v2 h2 : Int} {rl rr : N} : (N.turnL (.node b k v h l (.node b2 k2 v2 h2 rl rr))).raw = T.rotL (N.node b k v h l (.node b2 k2 v2 h2 rl rr)).raw := rfl
theorem raw_turnR {b : Nat} {k v h : Int} {r : N} {b2 : Nat} {k2 v2 h2 : Int} {ll lr : N} : (N.turnR (.node b k v h (.node b2 k2 v2 h2 ll lr) r)).raw = T.rotR (N.node b k v h (.node b2 k2 v2 h2 ll lr) r).raw := rfl

set_option maxHeartbeats 400000 in
theorem rotL_any (b : Nat) (k v h : Int) (l : N) (b2 : Nat) (k2 v2 h2 : Int) (rl rr : N) (w : World) (hin : (N.node b k v h l (.node b2 k2 v2 h2 rl rr)).In w)
    (nd : (N.node b k v h l (.node b2 k2 v2 h2 rl rr)).ids.Nodup) (bl : Hb l.raw.ht) (b1 : Hb rl.raw.ht) (b3 : Hb rr.raw.ht) :
    Calls Try.prog 78 #[.pointer (some ⟨b, 0, none⟩)] w fun e w' => e = .returned (.pointer (some ⟨b2, 0, none⟩)) ∧
      (N.turnL (.node b k v h l (.node b2 k2 v2 h2 rl rr))).In w' ∧ Fr (fun n => n = b ∨ n = b2) w w' := by
  unfold Hb at bl b1 b3
  obtain ⟨hb, hl, hb2, hrl, hrr⟩ := hin
  obtain ⟨n1, n2, n3, n4, n5⟩ := nodup_node nd
  obtain ⟨m1, m2, m3, m4, m5⟩ := nodup_node n4
  have hne : b ≠ b2 := fun e => n2 (by simp [N.ids, e])
  have hne' : b2 ≠ b := fun e => hne e.symm
  obtain ⟨u, hu⟩ := rl.ptr_some
  have c4 : w.cell? ⟨b, 4, none⟩ = some (.pointer (some ⟨b2, 0, none⟩)) := hb.cell 4
  have d3 : w.cell? ⟨b2, 3, none⟩ = some (.pointer u) := by rw [← hu]; exact hb2.cell 3
  have f4 : w.frozen? ⟨b, 4, none⟩ = false := hb.free 4
  have g3 : w.frozen? ⟨b2, 3, none⟩ = false := hb2.free 3
  have HB : Hid (Blk w b #[.int .i64 k, .int .i64 v, .int .i64 h, l.ptr, .pointer (some ⟨b2, 0, none⟩)] 119 ∧ Blk w b2 #[.int .i64 k2, .int .i64 v2, .int .i64 h2, rl.ptr, rr.ptr] 119) := ⟨hb, hb2⟩
  have HI : Hid (l.In w ∧ rl.In w ∧ rr.In w) := ⟨hl, hrl, hrr⟩
  have HU : Hid (rl.ptr = .pointer u) := hu
  clear hb hb2 hl hrl hrr hu nd
  go_enter Try.func78, Try.ntmps78
  go_wp2_with fail
  -- the world behind the two stores
  have F1 : Fr (fun n => n = b ∨ n = b2) w ((w.setCell ⟨b, 4, none⟩ (.pointer u)).setCell ⟨b2, 3, none⟩ (.pointer (some ⟨b, 0, none⟩))) :=
    Fr.setCell (Fr.setCell (Fr.refl _ _) (p := ⟨b, 4, none⟩) (fun _ => .inl rfl) _) (p := ⟨b2, 3, none⟩) (fun _ => .inr rfl) _
  have B1 : Blk ((w.setCell ⟨b, 4, none⟩ (.pointer u)).setCell ⟨b2, 3, none⟩ (.pointer (some ⟨b, 0, none⟩))) b #[.int .i64 k, .int .i64 v, .int .i64 h, l.ptr, rl.ptr] 119 := by
    rw [HU.out]; exact (HB.out.1.set 4 _).other _ _ hne
  have B2 : Blk ((w.setCell ⟨b, 4, none⟩ (.pointer u)).setCell ⟨b2, 3, none⟩ (.pointer (some ⟨b, 0, none⟩))) b2 #[.int .i64 k2, .int .i64 v2, .int .i64 h2, .pointer (some ⟨b, 0, none⟩), rr.ptr] 119 :=
    (HB.out.2.other _ _ hne').set 3 _
  have I1 := N.In.fr F1 HI.out.1 (fun x hx h => h.elim (fun e => n1 (e ▸ hx)) (fun e => n5 x hx (by simp [N.ids, e])))
  have I2 := N.In.fr F1 HI.out.2.1 (fun x hx h => h.elim (fun e => n2 (by simp [N.ids, e ▸ hx])) (fun e => m1 (e ▸ hx)))
  have I3 := N.In.fr F1 HI.out.2.2 (fun x hx h => h.elim (fun e => n2 (by simp [N.ids, e ▸ hx])) (fun e => m2 (e ▸ hx)))
  have HX : Hid _ := (⟨F1, B1, B2, I1, I2, I3⟩ : _ ∧ _ ∧ _ ∧ _ ∧ _ ∧ _)
  clear F1 B1 B2 I1 I2 I3 c4 d3 f4 g3 HB HI HU
  refine (recalc_any b k v h l rl _ ⟨HX.out.2.1, HX.out.2.2.2.1, HX.out.2.2.2.2.1⟩ (by omega) (by omega)).mono ?_
  rintro e w1 ⟨rfl, B1, F2⟩
  have HY : Hid _ := (⟨B1, F2⟩ : _ ∧ _)
  clear B1 F2
  go_wp2_with fail
  have J1 : (N.node b k v (1 + max l.raw.ht rl.raw.ht) l rl).In w1 := ⟨HY.out.1, N.In.fr HY.out.2 HX.out.2.2.2.1 (fun x hx e => n1 (e ▸ hx)), N.In.fr HY.out.2 HX.out.2.2.2.2.1 (fun x hx e => n2 (by simp [N.ids, e ▸ hx]))⟩
  have J3 : rr.In w1 := N.In.fr HY.out.2 HX.out.2.2.2.2.2 (fun x hx e => n2 (by simp [N.ids, e ▸ hx]))
  have B2 := HX.out.2.2.1.fr HY.out.2 (fun e => hne' e)
  have F3 := HX.out.1.trans HY.out.2 (fun n _ e => .inl e)
  refine (recalc_any b2 k2 v2 h2 (.node b k v (1 + max l.raw.ht rl.raw.ht) l rl) rr w1 ⟨B2, J1, J3⟩ (by show 0 ≤ 1 + max l.raw.ht rl.raw.ht ∧ 1 + max l.raw.ht rl.raw.ht ≤ 4294967200; omega) (by omega)).mono ?_
  rintro e w2 ⟨rfl, B3, F4⟩
  have HZ : Hid _ := (⟨J1, J3, F3, B3, F4⟩ : _ ∧ _ ∧ _ ∧ _ ∧ _)
  clear J1 J3 B2 F3 B3 F4
  go_wp2
  go_ret
  obtain ⟨J1, J3, F3, B3, F4⟩ := HZ.out
  refine ⟨rfl, ⟨B3, N.In.fr F4 J1 (fun x hx e => ?_), N.In.fr F4 J3 (fun x hx e => m2 (e ▸ hx))⟩, F3.trans F4 (fun n _ e => .inr e)⟩
  subst e
  rcases List.mem_cons.1 hx with h | h
  · exact hne' h
  · rcases List.mem_append.1 h with h | h
    · exact n5 x h (by simp [N.ids])
    · exact m1 h

set_option maxHeartbeats 400000 in
theorem rotR_any (b : Nat) (k v h : Int) (r : N) (b2 : Nat) (k2 v2 h2 : Int) (ll lr : N) (w : World) (hin : (N.node b k v h (.node b2 k2 v2 h2 ll lr) r).In w)
    (nd : (N.node b k v h (.node b2 k2 v2 h2 ll lr) r).ids.Nodup) (br : Hb r.raw.ht) (b1 : Hb ll.raw.ht) (b3 : Hb lr.raw.ht) :
    Calls Try.prog 77 #[.pointer (some ⟨b, 0, none⟩)] w fun e w' => e = .returned (.pointer (some ⟨b2, 0, none⟩)) ∧
      (N.turnR (.node b k v h (.node b2 k2 v2 h2 ll lr) r)).In w' ∧ Fr (fun n => n = b ∨ n = b2) w w' := by
  unfold Hb at br b1 b3
  obtain ⟨hb, ⟨hb2, hll, hlr⟩, hr⟩ := hin
  obtain ⟨n1, n2, n3, n4, n5⟩ := nodup_node nd
  obtain ⟨m1, m2, m3, m4, m5⟩ := nodup_node n3
  have hne : b ≠ b2 := fun e => n1 (by simp [N.ids, e])
  have hne' : b2 ≠ b := fun e => hne e.symm
  obtain ⟨u, hu⟩ := lr.ptr_some
  have c3 : w.cell? ⟨b, 3, none⟩ = some (.pointer (some ⟨b2, 0, none⟩)) := hb.cell 3
  have d4 : w.cell? ⟨b2, 4, none⟩ = some (.pointer u) := by rw [← hu]; exact hb2.cell 4
  have f3 : w.frozen? ⟨b, 3, none⟩ = false := hb.free 3
  have g4 : w.frozen? ⟨b2, 4, none⟩ = false := hb2.free 4
  have HB : Hid (Blk w b #[.int .i64 k, .int .i64 v, .int .i64 h, .pointer (some ⟨b2, 0, none⟩), r.ptr] 119 ∧ Blk w b2 #[.int .i64 k2, .int .i64 v2, .int .i64 h2, ll.ptr, lr.ptr] 119) := ⟨hb, hb2⟩
  have HI : Hid (r.In w ∧ ll.In w ∧ lr.In w) := ⟨hr, hll, hlr⟩
  have HU : Hid (lr.ptr = .pointer u) := hu
  clear hb hb2 hr hll hlr hu nd
  go_enter Try.func77, Try.ntmps77
  go_wp2_with fail
  have F1 : Fr (fun n => n = b ∨ n = b2) w ((w.setCell ⟨b, 3, none⟩ (.pointer u)).setCell ⟨b2, 4, none⟩ (.pointer (some ⟨b, 0, none⟩))) :=
    Fr.setCell (Fr.setCell (Fr.refl _ _) (p := ⟨b, 3, none⟩) (fun _ => .inl rfl) _) (p := ⟨b2, 4, none⟩) (fun _ => .inr rfl) _
  have B1 : Blk ((w.setCell ⟨b, 3, none⟩ (.pointer u)).setCell ⟨b2, 4, none⟩ (.pointer (some ⟨b, 0, none⟩))) b #[.int .i64 k, .int .i64 v, .int .i64 h, lr.ptr, r.ptr] 119 := by
    rw [HU.out]; exact (HB.out.1.set 3 _).other _ _ hne
  have B2 : Blk ((w.setCell ⟨b, 3, none⟩ (.pointer u)).setCell ⟨b2, 4, none⟩ (.pointer (some ⟨b, 0, none⟩))) b2 #[.int .i64 k2, .int .i64 v2, .int .i64 h2, ll.ptr, .pointer (some ⟨b, 0, none⟩)] 119 :=
    (HB.out.2.other _ _ hne').set 4 _
  have I1 := N.In.fr F1 HI.out.1 (fun x hx h => h.elim (fun e => n2 (e ▸ hx)) (fun e => n5 b2 (by simp [N.ids]) (e ▸ hx)))
  have I2 := N.In.fr F1 HI.out.2.1 (fun x hx h => h.elim (fun e => n1 (by simp [N.ids, e ▸ hx])) (fun e => m1 (e ▸ hx)))
  have I3 := N.In.fr F1 HI.out.2.2 (fun x hx h => h.elim (fun e => n1 (by simp [N.ids, e ▸ hx])) (fun e => m2 (e ▸ hx)))
  have HX : Hid _ := (⟨F1, B1, B2, I1, I2, I3⟩ : _ ∧ _ ∧ _ ∧ _ ∧ _ ∧ _)
  clear F1 B1 B2 I1 I2 I3 c3 d4 f3 g4 HB HI HU
  refine (recalc_any b k v h lr r _ ⟨HX.out.2.1, HX.out.2.2.2.2.2, HX.out.2.2.2.1⟩ (by omega) (by omega)).mono ?_
  rintro e w1 ⟨rfl, B1, F2⟩
  have HY : Hid _ := (⟨B1, F2⟩ : _ ∧ _)
  clear B1 F2
  go_wp2_with fail
  have J1 : (N.node b k v (1 + max lr.raw.ht r.raw.ht) lr r).In w1 := ⟨HY.out.1, N.In.fr HY.out.2 HX.out.2.2.2.2.2 (fun x hx e => n1 (by simp [N.ids, e ▸ hx])), N.In.fr HY.out.2 HX.out.2.2.2.1 (fun x hx e => n2 (e ▸ hx))⟩
  have J3 : ll.In w1 := N.In.fr HY.out.2 HX.out.2.2.2.2.1 (fun x hx e => n1 (by simp [N.ids, e ▸ hx]))
  have B2 := HX.out.2.2.1.fr HY.out.2 (fun e => hne' e)
  have F3 := HX.out.1.trans HY.out.2 (fun n _ e => .inl e)
  refine (recalc_any b2 k2 v2 h2 ll (.node b k v (1 + max lr.raw.ht r.raw.ht) lr r) w1 ⟨B2, J3, J1⟩ (by omega) (by show 0 ≤ 1 + max lr.raw.ht r.raw.ht ∧ 1 + max lr.raw.ht r.raw.ht ≤ 4294967200; omega)).mono ?_
  rintro e w2 ⟨rfl, B3, F4⟩
  have HZ : Hid _ := (⟨J1, J3, F3, B3, F4⟩ : _ ∧ _ ∧ _ ∧ _ ∧ _)
  clear J1 J3 B2 F3 B3 F4
  go_wp2
  go_ret
  obtain ⟨J1, J3, F3, B3, F4⟩ := HZ.out
  refine ⟨rfl, ⟨B3, N.In.fr F4 J3 (fun x hx e => m1 (e ▸ hx)), N.In.fr F4 J1 (fun x hx e => ?_)⟩, F3.trans F4 (fun n _ e => .inr e)⟩
  subst e
  rcases List.mem_cons.1 hx with h | h
  · exact hne' h
  · rcases List.mem_append.1 h with h | h
    · exact m2 h
    · exact n5 x (by simp [N.ids]) h

theorem perm_turnL (t : N) : t.turnL.ids.Perm t.ids := by
  cases t with
  | nil => exact List.Perm.refl _
  | node b k v h l r =>
    cases r with
    | nil => exact List.Perm.refl _
    | node b2 k2 v2 h2 rl rr =>
      simp only [N.turnL, N.ids]
      rw [List.perm_iff_count]; intro a; simp only [List.count_cons, List.count_append]; omega

theorem perm_turnR (t : N) : t.turnR.ids.Perm t.ids := by
  cases t with
  | nil => exact List.Perm.refl _
  | node b k v h l r =>
    cases l with
    | nil => exact List.Perm.refl _
    | node b2 k2 v2 h2 ll lr =>
      simp only [N.turnR, N.ids]
      rw [List.perm_iff_count]; intro a; simp only [List.count_cons, List.count_append]; omega

end Go.Proofs.Ytjlcebgfknfelaa.Avl
