/- The order of a table of ranks: mod, rank, the function value less. For every table and every number. -/
import Derived.Test.YtmhnhfmkcipcpaaProg
import Derived.Test.YtmhnhfmkcipcpaaWMore
import Derived.Test.YtmhnhfmkcipcpaaHk
namespace Go.Proofs.Ytmhnhfmkcipcpaa.Less
open Go Go.RowKit Go.IntWalk Go.Proofs.Ytmhnhfmkcipcpaa.Hk Go.Proofs.YtmhnhfmkcipcpaaW.PrintWords Go.Proofs.YtmhnhfmkcipcpaaW.PrintLast Go.Proofs.YtmhnhfmkcipcpaaW.PrintMore

/-- A number's rank by a table. -/
def rankOf (t : List Int) (k : Int) : Int := if t = [] then k else rd t (k % (t.length : Int))

theorem tmod_bd (k n : Int) (h : 0 < n) : -n < k.tmod n ∧ k.tmod n < n ∧ (k.tmod n + n) % n = k % n := by
  have h2 := Int.emod_nonneg k (show n ≠ 0 by omega)
  have h3 := Int.emod_lt_of_pos k h
  rw [Int.tmod_eq_emod]
  split
  · exact ⟨by omega, by omega, by simp⟩
  · rename_i hc
    have h4 : k % n ≠ 0 := fun e => hc (.inr (Int.dvd_of_emod_eq_zero e))
    have h5 : (n.natAbs : Int) = n := by omega
    rw [h5]
    exact ⟨by omega, by omega, by rw [show k % n - n + n = k % n by omega, Int.emod_emod]⟩

set_option maxHeartbeats 400000 in
theorem mod_any (k n : Int) (w : World) (h0 : 0 < n) (h1 : n ≤ 140737488351232) :
    Calls Try.prog 31 #[.int .i64 k, .int .i64 n] w fun e w' => e = .returned (.int .i64 (k % n)) ∧ w' = w := by
  obtain ⟨b0, b1, ht⟩ := tmod_bd k n h0
  have hz : (n == 0) = false := beq_eq_false_iff_ne.2 (by omega)
  have HT : Hid ((k.tmod n + n) % n = k % n) := ht
  clear ht
  go_enter Try.func31, Try.ntmps31
  go_wp2
  go_ret
  exact ⟨congrArg (fun x => Ending.returned (.int .i64 x)) HT.out, rfl⟩

set_option maxHeartbeats 400000 in
theorem rank_any (A : Option Addr) (c : Nat) (t : List Int) (k : Int) (w : World) (hC : Kd.C (Kd.int .i64) w A t.length t) (hn : t.length ≤ 140737488351232) :
    Calls Try.prog 85 #[.slice A t.length c, .int .i64 k] w fun e w' => e = .returned (.int .i64 (rankOf t k)) ∧ w' = w := by
  by_cases ht : t = []
  · subst ht
    have e : rankOf [] k = k := by simp [rankOf]
    rw [e]; clear e hC
    show Calls Try.prog 85 #[.slice A 0 c, .int .i64 k] w _
    go_enter Try.func85, Try.ntmps85
    go_wp2
    go_ret
    exact ⟨rfl, rfl⟩
  · have hp : 0 < t.length := List.length_pos_iff.2 ht
    have e : rankOf t k = rd t (k % (t.length : Int)) := by unfold rankOf; rw [if_neg ht]
    rw [e]; clear e
    have q0 := Int.emod_nonneg k (show (t.length : Int) ≠ 0 by omega)
    have q1 := Int.emod_lt_of_pos k (show (0 : Int) < t.length by omega)
    obtain ⟨ad, rfl, hc⟩ := Kd.at_int hC (k % (t.length : Int)) q0 q1
    have hz : ((t.length : Int) == 0) = false := beq_eq_false_iff_ne.2 (by omega)
    have hz' : (t.length == 0) = false := beq_eq_false_iff_ne.2 (by omega)
    have HC : Hid (Kd.C (Kd.int .i64) w (some ad) t.length t) := hC
    clear hC
    generalize hj : k % (t.length : Int) = j at q0 q1 hc ⊢
    have HJ : Hid (k % (t.length : Int) = j) := hj
    clear hj
    generalize hm : rd t j = v at hc ⊢
    clear hm
    go_enter Try.func85, Try.ntmps85
    go_wp2_with fail
    refine (mod_any k _ _ (by omega) (by omega)).mono ?_
    rintro e w' ⟨rfl, rfl⟩
    rw [HJ.out]
    go_wp2
    go_ret
    exact ⟨rfl, rfl⟩

/-- A function value that orders by a table: the captured table lies where it lay. -/
def LessV (w : World) (v : Value) (t : List Int) : Prop :=
  t.length ≤ 140737488351232 ∧ ∃ B A c, v = .func (.func 84) #[] #[.pointer (some ⟨B, 0, none⟩)] ∧ Blk w B #[.slice A t.length c] 30 ∧ Kd.C (Kd.int .i64) w A t.length t

theorem LessV.below {w w' : World} {v : Value} {t : List Int} (h : LessV w v t) (hb : Below w.heap.size w w') : LessV w' v t := by
  obtain ⟨h0, B, A, c, rfl, h1, h2⟩ := h
  exact ⟨h0, B, A, c, rfl, h1.below hb h1.lt, Kd.C_below h2 hb⟩

/-- The order, as a Bool. -/
def lt (t : List Int) (a b : Int) : Bool := decide (rankOf t a < rankOf t b)

set_option maxHeartbeats 400000 in
set_option maxRecDepth 100000 in
theorem less1_any (B : Nat) (A : Option Addr) (c : Nat) (t : List Int) (a b : Int) (w : World) (hn : t.length ≤ 140737488351232)
    (hB : Blk w B #[.slice A t.length c] 30) (hC : Kd.C (Kd.int .i64) w A t.length t) :
    Calls Try.prog 84 #[.int .i64 a, .int .i64 b, .pointer (some ⟨B, 0, none⟩)] w fun e w' => e = .returned (.bool (lt t a b)) ∧ w' = w.drew := by
  have c0 : w.cell? ⟨B, 0, none⟩ = some (.slice A t.length c) := hB.cell 0
  have HC : Hid (Kd.C (Kd.int .i64) w.drew A t.length t) := Kd.C_drew hC
  clear hB hC
  go_enter Try.func84, Try.ntmps84
  go_wp2_with fail
  refine still_drew (by kernel_rfl) (by kernel_rfl) ?_
  repeat still_step
  still_call (rank_any A c t a _ HC.out hn)
  repeat still_step
  still_call (rank_any A c t b _ HC.out hn)
  repeat still_step
  refine wpStill_nil ?_
  go_wp2
  go_ret
  exact ⟨rfl, rfl⟩

end Go.Proofs.Ytmhnhfmkcipcpaa.Less
