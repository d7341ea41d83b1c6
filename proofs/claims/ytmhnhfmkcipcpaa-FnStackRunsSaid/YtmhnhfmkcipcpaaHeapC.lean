/- Binary heaps in memory: a heap's own block, Push, Pop, Peek and Size. For every heap. -/
import Derived.Test.YtmhnhfmkcipcpaaHeapB
import Derived.StillTailTactics
namespace Go.Proofs.Ytmhnhfmkcipcpaa.Heap
open Go Go.RowKit Go.Proofs.Ytmhnhfmkcipcpaa.Hk Go.Proofs.Ytmhnhfmkcipcpaa.HeapPure Go.Proofs.Ytmhnhfmkcipcpaa.Less Go.Proofs.YtmhnhfmkcipcpaaW.PrintWords Go.Proofs.YtmhnhfmkcipcpaaW.PrintLast Go.Proofs.YtmhnhfmkcipcpaaW.PrintMore

theorem info3 : (Try.prog.info? 3).map (fun i => (i.zero, i.size, i.bytes)) = some (some (.int .i64 0), 1, 8) := by kernel_rfl

/-- The blocks that a heap's steps may turn: its own, and rows of numbers, from 'base' on. -/
def Zh (base R : Nat) (w : World) (k : Nat) : Prop := base ≤ k ∧ (k = R ∨ ∃ cs, w.heap[k]? = some (.cells cs 3 (0, 0)))
theorem zh_trans {base R : Nat} {a b c : World} (h : Fr (Zh base R a) a b) (k : Fr (Zh base R b) b c) : Fr (Zh base R a) a c :=
  h.trans k (fun n hn hz => by
    by_cases h0 : Zh base R a n
    · exact h0
    · have := h.block n hn h0
      obtain ⟨h1, h2⟩ := hz
      rw [this] at h2
      exact ⟨h1, h2⟩)
theorem zh_below {base R : Nat} {a b : World} (h : Fr (Zh base R a) a b) (hb : base ≤ a.heap.size) : Below base a b := h.below hb (fun _ hk => hk.1)

/-- A heap: its block, its order, and its row. -/
structure HeapV (base R : Nat) (tb : List Int) (v lv : Value) (xs : List Int) (w : World) : Prop where
  blk : Blk w R #[v, lv] 121
  less : LessS base w lv tb
  row : Ro w base v xs
  ge : base ≤ R
def HeapIn (base R : Nat) (tb xs : List Int) (w : World) : Prop := ∃ v lv, HeapV base R tb v lv xs w
section
variable {base R : Nat} {tb xs : List Int} {v lv : Value} {w w1 : World}
theorem HeapV.ne (h : HeapV base R tb v lv xs w) : some R ≠ v.ownBlock := Kd.R_ne h.row h.blk (by decide)
theorem HeapV.below (h : HeapV base R tb v lv xs w) (hb : Below w.heap.size w w1) (hs : base ≤ w.heap.size) : HeapV base R tb v lv xs w1 :=
  ⟨h.blk.below hb h.blk.lt, h.less.to ⟨hb.os, hb.tape, hb.output, hb.size, fun k hk => hb.block k (by omega)⟩, Kd.R_below h.row hb, h.ge⟩
theorem HeapV.drewN (h : HeapV base R tb v lv xs w) (n : Nat) : HeapV base R tb v lv xs (w.drewN n) := ⟨h.blk.drewN n, h.less.drewN n, h.row.drewN n, h.ge⟩
theorem HeapV.zrow (h : HeapV base R tb v lv xs w) : ∀ k, v.ownBlock = some k → Zh base R w k := fun k hk => by
  refine ⟨Kd.R_base h.row k hk, .inr ?_⟩
  obtain ⟨inner, ho⟩ := Kd.R_own h.row
  exact own_typed ho k hk
theorem HeapV.func (h : HeapV base R tb v lv xs w) : ∃ B, lv = .func (.func 84) #[] #[.pointer (some ⟨B, 0, none⟩)] := by
  obtain ⟨_, B, _, _, e, _⟩ := h.less.now
  exact ⟨B, e⟩
theorem HeapV.slice (h : HeapV base R tb v lv xs w) : ∃ A c, v = .slice A xs.length c := Kd.R_slice h.row
end

set_option maxHeartbeats 4000000 in
set_option maxRecDepth 100000 in
theorem size_any (base R : Nat) (tb xs : List Int) (w : World) (hH : HeapIn base R tb xs w) :
    Calls Try.prog 82 #[.pointer (some ⟨R, 0, none⟩)] w fun e w' => e = .returned (.int .i64 xs.length) ∧ w' = w := by
  obtain ⟨v, lv, hV⟩ := hH
  obtain ⟨A, c, rfl⟩ := hV.slice
  have c0 : w.cell? ⟨R, 0, none⟩ = some (.slice A xs.length c) := hV.blk.cell 0
  clear hV
  go_enter Try.func82, Try.ntmps82
  go_wp2_with fail
  go_ret
  exact ⟨rfl, rfl⟩

set_option maxHeartbeats 4000000 in
set_option maxRecDepth 100000 in
theorem peek_any (base R : Nat) (tb xs : List Int) (w : World) (hH : HeapIn base R tb xs w) :
    Calls Try.prog 81 #[.pointer (some ⟨R, 0, none⟩)] w fun e w' => e = .returned (.tuple #[.int .i64 (tellT xs 2).1, .bool (tellT xs 2).2]) ∧ w' = w := by
  have HH := hid hH
  obtain ⟨v, lv, hV⟩ := hH
  by_cases h0 : xs.length = 0
  · have HT : Hid (tellT xs 2 = (0, false)) := by refine hid ?_; simp [tellT, h0]
    clear hV
    go_enter Try.func81, Try.ntmps81
    go_wp2_with fail
    refine (size_any base R tb xs w HH.out).mono ?_
    rintro e w' ⟨rfl, rfl⟩
    rw [h0]
    go_wp2_with fail
    go_ret2
    exact ⟨by rw [HT.out]; rfl, rfl⟩
  · obtain ⟨g, c, rfl, _, _, _⟩ := Kd.R_form hV.row (by omega)
    obtain ⟨x, hx⟩ : ∃ x, at_ xs 0 = x := ⟨_, rfl⟩
    have HT : Hid (tellT xs 2 = (x, true)) := by refine hid ?_; simp [tellT, h0, ← hx]
    have c0 : w.cell? ⟨R, 0, none⟩ = some (.slice (some ⟨g, 0, none⟩) xs.length c) := hV.blk.cell 0
    have c1 : w.cell? ⟨g, 0, none⟩ = some (.int .i64 x) := by rw [← hx]; exact ro_cell hV.row 0 (by omega)
    clear hV hx
    generalize hn : xs.length = n at h0 c0
    have HN := hid hn
    clear hn
    have hz : (n == 0) = false := beq_eq_false_iff_ne.2 h0
    have hz2 : ((n : Int) == 0) = false := beq_eq_false_iff_ne.2 (by omega)
    have hp : (0 : Int) < (n : Int) := by omega
    have hp2 : 0 < n := by omega
    go_enter Try.func81, Try.ntmps81
    go_wp2_with fail
    refine (size_any base R tb xs w HH.out).mono ?_
    rintro e w' ⟨rfl, rfl⟩
    rw [HN.out]
    go_wp2_with fail
    go_ret2
    exact ⟨by rw [HT.out]; rfl, rfl⟩

end Go.Proofs.Ytmhnhfmkcipcpaa.Heap
