/- B-trees in memory: nodes of sixty-four entries, and their cells. For every world. -/
import Derived.Test.YtjlcebgfknfelaaProg
import Derived.Test.YtjlcebgfknfelaaWMore
import Derived.Test.YtjlcebgfknfelaaHk2
import Derived.Test.YtjlcebgfknfelaaLess
import Derived.Test.YtjlcebgfknfelaaRow
import Derived.Test.YtjlcebgfknfelaaBtPure
import Derived.Deep.WholeRow
import Derived.Deep.MidRow
import Derived.StillTailTactics
namespace Go.Proofs.Ytjlcebgfknfelaa.Bt
open Go Go.RowKit Go.IntWalk Go.Proofs.Ytjlcebgfknfelaa.Hk Go.Proofs.Ytjlcebgfknfelaa.BtPure Go.Proofs.YtjlcebgfknfelaaW.PrintWords Go.Proofs.YtjlcebgfknfelaaW.PrintLast Go.Proofs.YtjlcebgfknfelaaW.PrintMore

/-- What an entry's cells hold. -/
structure Q where
  k : Int
  v : Int
  ok : Bool
  p : Option Addr
def Q.cell (q : Q) : Nat → Value
  | 0 => .int .i64 q.k
  | 1 => .int .i64 q.v
  | 2 => .bool q.ok
  | _ => .pointer q.p
def q0 : Q := ⟨0, 0, false, none⟩
/-- The cells of a node. -/
def cellsA (m : Int) (g : Nat → Q) : Array Value := Array.ofFn (n := 257) fun i => if i.1 = 0 then .int .i64 m else (g ((i.1 - 1) / 4)).cell ((i.1 - 1) % 4)
/-- .. of its array alone. -/
def arrC (g : Nat → Q) : Array Value := Array.ofFn (n := 256) fun i => (g (i.1 / 4)).cell (i.1 % 4)
theorem cells_size (m : Int) (g : Nat → Q) : (cellsA m g).size = 257 := Array.size_ofFn
theorem arr_size (g : Nat → Q) : (arrC g).size = 256 := Array.size_ofFn
theorem cells_zero (m : Int) (g : Nat → Q) : (cellsA m g)[0]? = some (.int .i64 m) := by
  unfold cellsA
  rw [Array.getElem?_ofFn, dif_pos (by omega)]
  rfl
theorem cells_at (m : Int) (g : Nat → Q) (x f : Nat) (hx : x < 64) (hf : f < 4) : (cellsA m g)[4 * x + f + 1]? = some ((g x).cell f) := by
  unfold cellsA
  rw [Array.getElem?_ofFn, dif_pos (by omega)]
  simp only [Nat.add_sub_cancel]
  rw [if_neg (by omega), show (4 * x + f) / 4 = x by omega, show (4 * x + f) % 4 = f by omega]
theorem arr_at (g : Nat → Q) (x f : Nat) (hx : x < 64) (hf : f < 4) : (arrC g)[4 * x + f]? = some ((g x).cell f) := by
  unfold arrC
  rw [Array.getElem?_ofFn, dif_pos (by omega)]
  simp only []
  rw [show (4 * x + f) / 4 = x by omega, show (4 * x + f) % 4 = f by omega]
theorem cells_arr (m : Int) (g : Nat → Q) (j : Nat) (hj : j < 256) : (cellsA m g)[j + 1]? = (arrC g)[j]? := by
  have h1 := cells_at m g (j / 4) (j % 4) (by omega) (by omega)
  have h2 := arr_at g (j / 4) (j % 4) (by omega) (by omega)
  rw [show 4 * (j / 4) + j % 4 = j by omega] at h1 h2
  rw [h1, h2]
/-- Two entries' cells are those of two functions that agree. -/
theorem cells_ext {m m' : Int} {g g' : Nat → Q} (hm : m = m') (h : ∀ x, x < 64 → g x = g' x) : cellsA m g = cellsA m' g' := by
  subst hm
  apply Array.ext_getElem?
  intro i
  by_cases hi : i < 257
  · cases i with
    | zero => rw [cells_zero, cells_zero]
    | succ j =>
      have h1 := cells_at m g (j / 4) (j % 4) (by omega) (by omega)
      have h2 := cells_at m g' (j / 4) (j % 4) (by omega) (by omega)
      rw [show 4 * (j / 4) + j % 4 = j by omega] at h1 h2
      rw [h1, h2, h _ (by omega)]
  · rw [Array.getElem?_eq_none (by rw [cells_size]; omega), Array.getElem?_eq_none (by rw [cells_size]; omega)]
def upd (g : Nat → Q) (x : Nat) (q : Q) : Nat → Q := fun y => if y = x then q else g y
/-- One cell of an entry is stored. -/
theorem cells_set (m : Int) (g : Nat → Q) (x f : Nat) (v : Value) (q : Q) (hx : x < 64) (hf : f < 4) (hv : q.cell f = v) (ho : ∀ i, i < 4 → i ≠ f → q.cell i = (g x).cell i) :
    (cellsA m g).setIfInBounds (4 * x + f + 1) v = cellsA m (upd g x q) := by
  apply Array.ext_getElem?
  intro i
  by_cases hi : i < 257
  · cases i with
    | zero => rw [Array.getElem?_setIfInBounds_ne (by omega), cells_zero, cells_zero]
    | succ j =>
      have h2 := cells_at m (upd g x q) (j / 4) (j % 4) (by omega) (by omega)
      have h1 := cells_at m g (j / 4) (j % 4) (by omega) (by omega)
      rw [show 4 * (j / 4) + j % 4 = j by omega] at h1 h2
      by_cases e : j = 4 * x + f
      · subst e
        rw [Array.getElem?_setIfInBounds_self_of_lt (by rw [cells_size]; omega), h2, show (4 * x + f) / 4 = x by omega, show (4 * x + f) % 4 = f by omega]
        simp [upd, hv]
      · rw [Array.getElem?_setIfInBounds_ne (by omega), h1, h2]
        by_cases e2 : j / 4 = x
        · subst e2
          simp only [upd, if_true]
          rw [ho (j % 4) (by omega) (by omega)]
        · simp [upd, e2]
  · rw [Array.getElem?_eq_none (by rw [Array.size_setIfInBounds, cells_size]; omega), Array.getElem?_eq_none (by rw [cells_size]; omega)]
theorem cells_setm (m m' : Int) (g : Nat → Q) : (cellsA m g).setIfInBounds 0 (.int .i64 m') = cellsA m' g := by
  apply Array.ext_getElem?
  intro i
  by_cases hi : i < 257
  · cases i with
    | zero => rw [Array.getElem?_setIfInBounds_self_of_lt (by rw [cells_size]; omega), cells_zero]
    | succ j =>
      have h1 := cells_at m g (j / 4) (j % 4) (by omega) (by omega)
      have h2 := cells_at m' g (j / 4) (j % 4) (by omega) (by omega)
      rw [show 4 * (j / 4) + j % 4 = j by omega] at h1 h2
      rw [Array.getElem?_setIfInBounds_ne (by omega), h1, h2]
  · rw [Array.getElem?_eq_none (by rw [Array.size_setIfInBounds, cells_size]; omega), Array.getElem?_eq_none (by rw [cells_size]; omega)]

/-- A node in memory: how many entries it has, and what its places hold. -/
def Nd (w : World) (b : Nat) (m : Int) (g : Nat → Q) : Prop := Blk w b (cellsA m g) 113
section
variable {w : World} {b : Nat} {m : Int} {g : Nat → Q}
theorem Nd.lt (h : Nd w b m g) : b < w.heap.size := Blk.lt h
theorem Nd.m0 (h : Nd w b m g) : w.cell? ⟨b, 0, none⟩ = some (.int .i64 m) := by rw [Blk.cell h, cells_zero]
theorem Nd.free (h : Nd w b m g) (i : Nat) : w.frozen? ⟨b, i, none⟩ = false := Blk.free h i
theorem Nd.at (h : Nd w b m g) (x f : Nat) (hx : x < 64) (hf : f < 4) : w.cell? ⟨b, 4 * x + f + 1, none⟩ = some ((g x).cell f) := by rw [Blk.cell h, cells_at _ _ _ _ hx hf]
theorem Nd.at' (h : Nd w b m g) (x f : Nat) (hx : x < 64) (hf : f < 4) : w.cell? ⟨b, 1 + x * 4 + f, none⟩ = some ((g x).cell f) := by rw [show 1 + x * 4 + f = 4 * x + f + 1 by omega]; exact h.at x f hx hf
theorem Nd.setm (h : Nd w b m g) (m' : Int) : Nd (w.setCell ⟨b, 0, none⟩ (.int .i64 m')) b m' g := by
  have := Blk.set h 0 (.int .i64 m')
  rw [cells_setm] at this
  exact this
theorem Nd.set (h : Nd w b m g) (x f : Nat) (v : Value) (q : Q) (hx : x < 64) (hf : f < 4) (hv : q.cell f = v) (ho : ∀ i, i < 4 → i ≠ f → q.cell i = (g x).cell i) : Nd (w.setCell ⟨b, 4 * x + f + 1, none⟩ v) b m (upd g x q) := by
  have := Blk.set h (4 * x + f + 1) v
  rw [cells_set m g x f v q hx hf hv ho] at this
  exact this
theorem Nd.ext (h : Nd w b m g) {g' : Nat → Q} (hg : ∀ x, x < 64 → g x = g' x) : Nd w b m g' := by
  unfold Nd at h ⊢
  rw [← cells_ext rfl hg]
  exact h
theorem Nd.drewN (h : Nd w b m g) (n : Nat) : Nd (w.drewN n) b m g := Blk.drewN h n
end
theorem Nd.alloc {w : World} {b : Nat} {m : Int} {g : Nat → Q} (h : Nd w b m g) (o : Obj) : Nd (w.alloc o) b m g := Blk.alloc h o
theorem Nd.other' {w : World} {b : Nat} {m : Int} {g : Nat → Q} (h : Nd w b m g) (a : Addr) (v : Value) (hn : b ≠ a.block) : Nd (w.setCell a v) b m g := Blk.other h a v hn
theorem zero_cells : Try.zeroCells113 = cellsA 0 (fun _ => q0) := by kernel_rfl
theorem Nd.new32 (w : World) : Nd (w.alloc (.cells (Try.zeroCells113.setIfInBounds 0 (.int .i64 32)) 113)) w.heap.size 32 (fun _ => q0) := by
  rw [zero_cells, cells_setm]
  exact Blk.new w _ _
theorem i64_in (x : Int) (h : -9223372036854775808 ≤ x ∧ x ≤ 9223372036854775807) : IntKind.i64.wrap x = x := by rw [i64_w]; exact wrap64_in _ h
theorem upd_upd (g : Nat → Q) (x : Nat) (q q' : Q) : upd (upd g x q) x q' = upd g x q' := by
  funext y
  simp only [upd]
  split <;> rfl
theorem upd_same (g : Nat → Q) (x : Nat) (q : Q) : upd g x q x = q := by simp [upd]
/-- A whole entry's cells. -/
def cellsQ (q : Q) : List Value := [.int .i64 q.k, .int .i64 q.v, .bool q.ok, .pointer q.p]
theorem Nd.puts {w : World} {b : Nat} {m : Int} {g : Nat → Q} (h : Nd w b m g) (x : Nat) (q : Q) (hx : x < 64) : Nd (w.setCells b (1 + x * 4) (cellsQ q)) b m (upd g x q) := by
  have h1 := h.set x 0 (.int .i64 q.k) ⟨q.k, (g x).v, (g x).ok, (g x).p⟩ hx (by omega) rfl (fun i hi hn => by match i, hi, hn with | 1, _, _ => rfl | 2, _, _ => rfl | 3, _, _ => rfl)
  have h2 := h1.set x 1 (.int .i64 q.v) ⟨q.k, q.v, (g x).ok, (g x).p⟩ hx (by omega) rfl (fun i hi hn => by rw [upd_same]; match i, hi, hn with | 0, _, _ => rfl | 2, _, _ => rfl | 3, _, _ => rfl)
  have h3 := h2.set x 2 (.bool q.ok) ⟨q.k, q.v, q.ok, (g x).p⟩ hx (by omega) rfl (fun i hi hn => by rw [upd_same]; match i, hi, hn with | 0, _, _ => rfl | 1, _, _ => rfl | 3, _, _ => rfl)
  have h4 := h3.set x 3 (.pointer q.p) q hx (by omega) rfl (fun i hi hn => by rw [upd_same]; match i, hi, hn with | 0, _, _ => rfl | 1, _, _ => rfl | 2, _, _ => rfl | 3, _, hn => exact absurd rfl hn)
  rw [upd_upd, upd_upd, upd_upd] at h4
  rw [show 4 * x + 0 + 1 = 1 + x * 4 by omega, show 4 * x + 1 + 1 = 1 + x * 4 + 1 by omega, show 4 * x + 2 + 1 = 1 + x * 4 + 1 + 1 by omega] at h4
  exact h4
theorem Nd.range {w : World} {b : Nat} {m : Int} {g : Nat → Q} (h : Nd w b m g) (x : Nat) (hx : x < 64) : w.rangeAt b (1 + x * 4) (cellsQ (g x)) := fun j v hv => by
  match j, hv with
  | 0, hv => rw [h.at' x 0 hx (by omega)]; exact hv
  | 1, hv => rw [h.at' x 1 hx (by omega)]; exact hv
  | 2, hv => rw [h.at' x 2 hx (by omega)]; exact hv
  | 3, hv => rw [h.at' x 3 hx (by omega)]; exact hv
theorem Nd.there {w : World} {b : Nat} {m : Int} {g : Nat → Q} (h : Nd w b m g) (x : Nat) (hx : x < 64) : w.there b (1 + x * 4) 4 := fun j hj => ⟨by rw [h.at' x j hx hj]; rfl, h.free _⟩
theorem Blk.sets {b : Nat} {cs : Array Value} {t : TypeId} : ∀ {w : World} (_ : Blk w b cs t) (b' o : Nat) (vs : List Value) (_ : b ≠ b'), Blk (w.setCells b' o vs) b cs t
  | _, h, _, _, [], _ => h
  | _, h, b', o, v :: vs, hn => Blk.sets (h.other ⟨b', o, none⟩ v hn) b' (o + 1) vs hn
theorem fr_sets {S : Nat → Prop} {a : World} {b : Nat} (hb : b < a.heap.size → S b) : ∀ {w : World} (_ : Fr S a w) (o : Nat) (vs : List Value), Fr S a (w.setCells b o vs)
  | _, h, _, [] => h
  | _, h, o, v :: vs => fr_sets hb (h.setCell (p := ⟨b, o, none⟩) hb v) (o + 1) vs
theorem add_i (b i j : Nat) : (⟨b, i, none⟩ : Addr).add j = ⟨b, i + j, none⟩ := by unfold Addr.add; split <;> simp_all

set_option maxHeartbeats 4000000 in
set_option maxRecDepth 100000 in
theorem split_any (R b : Nat) (g : Nat → Q) (w : World) (hN : Nd w b 64 g) :
    Calls Try.prog 98 #[.pointer (some ⟨R, 0, none⟩), .pointer (some ⟨b, 0, none⟩)] w fun e w' => ∃ c, e = .returned (.pointer (some ⟨c, 0, none⟩)) ∧ w.heap.size ≤ c ∧ Nd w' b 32 g ∧ (∃ g', Nd w' c 32 g' ∧ ∀ x, x < 32 → g' x = g (32 + x)) ∧ Fr (· = b) w w' := by
  have HN := hid hN
  clear hN
  go_enter Try.func98, Try.ntmps98
  go_upto_region 2 with fail
  have HB := hid (HN.out.alloc (.cells (Try.zeroCells113.setIfInBounds 0 (.int .i64 32)) 113))
  have HC := hid (Nd.new32 w)
  have HF : Hid (Fr (· = b) w (w.alloc (.cells (Try.zeroCells113.setIfInBounds 0 (.int .i64 32)) 113))) := (Fr.refl _ _).alloc _
  have HL := hid HN.out.lt
  generalize w.alloc (.cells (Try.zeroCells113.setIfInBounds 0 (.int .i64 32)) 113) = W at HB HC HF ⊢
  have c0 := HB.out.m0
  have f0 := HB.out.free 0
  go_upto_region 3 with fail
  have HB2 := hid (HB.out.setm 32)
  have HC2 := hid (HC.out.other' ⟨b, 0, none⟩ (.int .i64 32) (Nat.ne_of_gt HL.out))
  have HF2 := hid (HF.out.setCell (p := ⟨b, 0, none⟩) (fun _ => rfl) (.int .i64 32))
  clear c0 f0 HB HC HF
  generalize W.setCell ⟨b, 0, none⟩ (.int .i64 32) = W2 at HB2 HC2 HF2 ⊢
  go_wp2_with fail
  go_loopg [6] 32 (fun n_ v6 wr => ∃ (i : Nat) (gc : Nat → Q), v6 = .int .i64 i ∧ i ≤ 32 ∧ Hid (n_ + i = 32) ∧ Hid (Nd wr b 32 g ∧ Nd wr w.heap.size 32 gc ∧ (∀ x, x < i → gc x = g (32 + x)) ∧ Fr (· = b) w wr))
  case atStart => exact ⟨0, _, rfl, Nat.zero_le _, rfl, HB2.out, HC2.out, fun x hx => absurd hx (Nat.not_lt_zero _), HF2.out⟩
  case round =>
    obtain ⟨i, gc, rfl, hi, HG, HI⟩ := hrel
    by_cases hlt : i < 32
    · have a0 : wr.cell? ⟨b, 1 + (32 + i) * 4, none⟩ = some (.int .i64 (g (32 + i)).k) := HI.out.1.at' (32 + i) 0 (by omega) (by omega)
      have a1 : wr.cell? ⟨b, 1 + (32 + i) * 4 + 1, none⟩ = some (.int .i64 (g (32 + i)).v) := HI.out.1.at' (32 + i) 1 (by omega) (by omega)
      have a2 : wr.cell? ⟨b, 1 + (32 + i) * 4 + 2, none⟩ = some (.bool (g (32 + i)).ok) := HI.out.1.at' (32 + i) 2 (by omega) (by omega)
      have a3 : wr.cell? ⟨b, 1 + (32 + i) * 4 + 3, none⟩ = some (.pointer (g (32 + i)).p) := HI.out.1.at' (32 + i) 3 (by omega) (by omega)
      have r0 : 0 ≤ 32 + (i : Int) ∧ 32 + (i : Int) < 64 := by omega
      have t0 : (32 + (i : Int)).toNat = 32 + i := by omega
      have r1 : (i : Int) < 64 := by omega
      have w0 : IntKind.i64.wrap (32 + (i : Int)) = ((32 + i : Nat) : Int) := by rw [i64_in _ (by omega)]; omega
      go_upto_region 6 with fail
      refine wp_region_still_tail 12 (by kernel_rfl) (by kernel_rfl) ?_
      simp only [List.take_succ_cons, List.take_zero, List.drop_succ_cons, List.drop_zero]
      repeat still_step
      refine wpStill_nil ?_
      change wpList _ _ _ _ _ wr.drew
      refine wpList_store_mid rfl 110 (.tmp 27) (.tmp 24) rfl w.heap.size (1 + i * 4) _ rfl rfl (HI.out.2.1.there i (by omega)) (by kernel_rfl) (by simp [Value.oneCell']) ?_
      change wpList _ _ _ _ _ (wr.drew.setCells w.heap.size (1 + i * 4) (cellsQ (g (32 + i))))
      have HI2 := hid (Nd.puts (w := wr.drew) HI.out.2.1 i (g (32 + i)) (by omega))
      have HI3 : Hid (Nd (wr.drew.setCells w.heap.size (1 + i * 4) (cellsQ (g (32 + i)))) b 32 g) := Blk.sets (w := wr.drew) HI.out.1 w.heap.size (1 + i * 4) (cellsQ (g (32 + i))) (Nat.ne_of_lt HL.out)
      have HI4 := hid (fr_sets (b := w.heap.size) (fun h => absurd h (Nat.lt_irrefl _)) HI.out.2.2.2.drew (1 + i * 4) (cellsQ (g (32 + i))))
      clear a0 a1 a2 a3
      generalize wr.drew.setCells w.heap.size (1 + i * 4) (cellsQ (g (32 + i))) = W4 at HI2 HI3 HI4 ⊢
      go_wp2_with fail
      have hg0 := HG.out
      obtain ⟨k1, rfl⟩ : ∃ k1, gk = k1 + 1 := ⟨gk - 1, by omega⟩
      go_roundg k1
      case measure => omega
      case rel => exact ⟨i + 1, _, rfl, hlt, by show k1 + (i + 1) = 32; omega, HI3.out, HI2.out, fun x hx => by
        by_cases e : x = i
        · rw [e, upd_same]
        · simp only [upd]; rw [if_neg e]; exact HI.out.2.2.1 x (by omega), HI4.out⟩
    · obtain rfl : i = 32 := by omega
      go_wp2_with fail
      go_ret
      exact ⟨_, rfl, Nat.le_refl _, HI.out.1, ⟨gc, HI.out.2.1, HI.out.2.2.1⟩, HI.out.2.2.2⟩
end Go.Proofs.Ytjlcebgfknfelaa.Bt
