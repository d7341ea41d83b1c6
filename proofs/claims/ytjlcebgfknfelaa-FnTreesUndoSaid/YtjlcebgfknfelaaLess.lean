/- The order of a table of ranks: mod, rank, the function value less, and Compare by it. For every table and every number. -/
import Derived.Test.YtjlcebgfknfelaaProg
import Derived.Test.YtjlcebgfknfelaaWMore
import Derived.Test.YtjlcebgfknfelaaHk
namespace Go.Proofs.Ytjlcebgfknfelaa.Less
open Go Go.RowKit Go.IntWalk Go.Proofs.Ytjlcebgfknfelaa.Hk Go.Proofs.YtjlcebgfknfelaaW.PrintWords Go.Proofs.YtjlcebgfknfelaaW.PrintLast Go.Proofs.YtjlcebgfknfelaaW.PrintMore

/-- A number's rank by a table. -/
def rankOf (t : List Int) (k : Int) : Int := if t = [] then k else rd t (k % (t.length : Int))

theorem tmod_bd (k n : Int) (h : 0 < n) : -n < k.tmod n ∧ k.tmod n < n ∧ (k.tmod n + n) % n = k % n := by
  have h2 := Int.emod_nonneg k (show n ≠ 0 by omega)
  have h3 := Int.emod_lt_of_pos k h
  rw [Int.tmod_eq_emod]
  split
  · exact ⟨by omega, by omega, by simp⟩
  · rename_i hc
    have h4 : k % n ≠ 0 := fun e => hc (.inr (Int.dvd_of_emod_eq_zero e))
    have h5 : (n.natAbs : Int) = n := by omega
    rw [h5]
    exact ⟨by omega, by omega, by rw [show k % n - n + n = k % n by omega, Int.emod_emod]⟩

set_option maxHeartbeats 400000 in
theorem mod_any (k n : Int) (w : World) (h0 : 0 < n) (h1 : n ≤ 140737488351232) :
    Calls Try.prog 88 #[.int .i64 k, .int .i64 n] w fun e w' => e = .returned (.int .i64 (k % n)) ∧ w' = w := by
  obtain ⟨b0, b1, ht⟩ := tmod_bd k n h0
  have hz : (n == 0) = false := beq_eq_false_iff_ne.2 (by omega)
  have HT : Hid ((k.tmod n + n) % n = k % n) := ht
  clear ht
  go_enter Try.func88, Try.ntmps88
  go_wp2
  go_ret
  exact ⟨congrArg (fun x => Ending.returned (.int .i64 x)) HT.out, rfl⟩

set_option maxHeartbeats 400000 in
theorem rank_any (A : Option Addr) (c : Nat) (t : List Int) (k : Int) (w : World) (hC : Kd.C (Kd.int .i64) w A t.length t) (hn : t.length ≤ 140737488351232) :
    Calls Try.prog 68 #[.slice A t.length c, .int .i64 k] w fun e w' => e = .returned (.int .i64 (rankOf t k)) ∧ w' = w := by
  by_cases ht : t = []
  · subst ht
    have e : rankOf [] k = k := by simp [rankOf]
    rw [e]; clear e hC
    show Calls Try.prog 68 #[.slice A 0 c, .int .i64 k] w _
    go_enter Try.func68, Try.ntmps68
    go_wp2
    go_ret
    exact ⟨rfl, rfl⟩
  · have hp : 0 < t.length := List.length_pos_iff.2 ht
    have e : rankOf t k = rd t (k % (t.length : Int)) := by unfold rankOf; rw [if_neg ht]
    rw [e]; clear e
    have q0 := Int.emod_nonneg k (show (t.length : Int) ≠ 0 by omega)
    have q1 := Int.emod_lt_of_pos k (show (0 : Int) < t.length by omega)
    obtain ⟨ad, rfl, hc⟩ := Kd.at_int hC (k % (t.length : Int)) q0 q1
    have hz : ((t.length : Int) == 0) = false := beq_eq_false_iff_ne.2 (by omega)
    have hz' : (t.length == 0) = false := beq_eq_false_iff_ne.2 (by omega)
    have HC : Hid (Kd.C (Kd.int .i64) w (some ad) t.length t) := hC
    clear hC
    generalize hj : k % (t.length : Int) = j at q0 q1 hc ⊢
    have HJ : Hid (k % (t.length : Int) = j) := hj
    clear hj
    generalize hm : rd t j = v at hc ⊢
    clear hm
    go_enter Try.func68, Try.ntmps68
    go_wp2_with fail
    refine (mod_any k _ _ (by omega) (by omega)).mono ?_
    rintro e w' ⟨rfl, rfl⟩
    rw [HJ.out]
    go_wp2
    go_ret
    exact ⟨rfl, rfl⟩

/-- A function value that orders by a table: the captured table lies where it lay. -/
def LessV (w : World) (v : Value) (t : List Int) : Prop :=
  t.length ≤ 140737488351232 ∧ ∃ B A c, v = .func (.func 67) #[] #[.pointer (some ⟨B, 0, none⟩)] ∧ Blk w B #[.slice A t.length c] 24 ∧ Kd.C (Kd.int .i64) w A t.length t

theorem LessV.below {w w' : World} {v : Value} {t : List Int} (h : LessV w v t) (hb : Below w.heap.size w w') : LessV w' v t := by
  obtain ⟨h0, B, A, c, rfl, h1, h2⟩ := h
  exact ⟨h0, B, A, c, rfl, h1.below hb h1.lt, Kd.C_below h2 hb⟩

/-- The order, as a Bool. -/
def lt (t : List Int) (a b : Int) : Bool := decide (rankOf t a < rankOf t b)

set_option maxHeartbeats 400000 in
set_option maxRecDepth 100000 in
theorem less1_any (B : Nat) (A : Option Addr) (c : Nat) (t : List Int) (a b : Int) (w : World) (hn : t.length ≤ 140737488351232)
    (hB : Blk w B #[.slice A t.length c] 24) (hC : Kd.C (Kd.int .i64) w A t.length t) :
    Calls Try.prog 67 #[.int .i64 a, .int .i64 b, .pointer (some ⟨B, 0, none⟩)] w fun e w' => e = .returned (.bool (lt t a b)) ∧ w' = w.drew := by
  have c0 : w.cell? ⟨B, 0, none⟩ = some (.slice A t.length c) := hB.cell 0
  have HC : Hid (Kd.C (Kd.int .i64) w.drew A t.length t) := Kd.C_drew hC
  clear hB hC
  go_enter Try.func67, Try.ntmps67
  go_wp2_with fail
  refine still_drew (by kernel_rfl) (by kernel_rfl) ?_
  repeat still_step
  still_call (rank_any A c t a _ HC.out hn)
  repeat still_step
  still_call (rank_any A c t b _ HC.out hn)
  repeat still_step
  refine wpStill_nil ?_
  go_wp2
  go_ret
  exact ⟨rfl, rfl⟩

/-- How two numbers stand by the order. -/
def cmp (t : List Int) (a b : Int) : Int := if rankOf t a < rankOf t b then -1 else if rankOf t b < rankOf t a then 1 else 0

set_option maxHeartbeats 400000 in
theorem compare_any (v : Value) (t : List Int) (a b : Int) (w : World) (hv : LessV w v t) :
    Calls Try.prog 96 #[.int .i64 a, .int .i64 b, v] w fun e w' => e = .returned (.int .i64 (cmp t a b)) ∧ ∃ n, w' = w.drewN n := by
  obtain ⟨hn, B, A, c, rfl, hB, hC⟩ := hv
  have H : Hid (Blk w B #[.slice A t.length c] 24 ∧ Kd.C (Kd.int .i64) w A t.length t) := ⟨hB, hC⟩
  have HE : Hid (cmp t a b = if rankOf t a < rankOf t b then -1 else if rankOf t b < rankOf t a then 1 else 0) := rfl
  clear hB hC
  by_cases c1 : rankOf t a < rankOf t b
  · have e1 : lt t a b = true := decide_eq_true c1
    have HR : Hid (cmp t a b = -1) := HE.out.trans (if_pos c1)
    clear c1 HE
    go_enter Try.func96, Try.ntmps96
    go_wp2_with fail
    refine (less1_any B A c t a b _ hn H.out.1 H.out.2).mono ?_
    rintro e w' ⟨rfl, rfl⟩
    rw [e1]
    clear e1
    go_wp2
    go_ret
    exact ⟨by rw [HR.out]; rfl, 1, rfl⟩
  · have e1 : lt t a b = false := decide_eq_false c1
    by_cases c2 : rankOf t b < rankOf t a
    · have e2 : lt t b a = true := decide_eq_true c2
      have HR : Hid (cmp t a b = 1) := HE.out.trans ((if_neg c1).trans (if_pos c2))
      clear c1 c2 HE
      go_enter Try.func96, Try.ntmps96
      go_wp2_with fail
      refine (less1_any B A c t a b _ hn H.out.1 H.out.2).mono ?_
      rintro e w' ⟨rfl, rfl⟩
      rw [e1]
      clear e1
      go_wp2_with fail
      refine (less1_any B A c t b a _ hn H.out.1.drew (Kd.C_drew H.out.2)).mono ?_
      rintro e w' ⟨rfl, rfl⟩
      rw [e2]
      clear e2
      go_wp2
      go_ret
      exact ⟨by rw [HR.out]; rfl, 2, rfl⟩
    · have e2 : lt t b a = false := decide_eq_false c2
      have HR : Hid (cmp t a b = 0) := HE.out.trans ((if_neg c1).trans (if_neg c2))
      clear c1 c2 HE
      go_enter Try.func96, Try.ntmps96
      go_wp2_with fail
      refine (less1_any B A c t a b _ hn H.out.1 H.out.2).mono ?_
      rintro e w' ⟨rfl, rfl⟩
      rw [e1]
      clear e1
      go_wp2_with fail
      refine (less1_any B A c t b a _ hn H.out.1.drew (Kd.C_drew H.out.2)).mono ?_
      rintro e w' ⟨rfl, rfl⟩
      rw [e2]
      clear e2
      go_wp2
      go_ret
      exact ⟨by rw [HR.out]; rfl, 2, rfl⟩

end Go.Proofs.Ytjlcebgfknfelaa.Less
