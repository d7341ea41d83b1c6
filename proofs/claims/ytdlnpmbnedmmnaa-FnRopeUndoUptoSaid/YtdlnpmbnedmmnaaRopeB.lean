/- Ropes in memory: rows that are read; two rows, one behind the other; a rope's value. For every rope. -/
import Derived.Test.YtdlnpmbnedmmnaaRopeA
import Derived.Test.YtdlnpmbnedmmnaaRow
import Derived.OwnWalk
namespace Go.Proofs.Ytdlnpmbnedmmnaa.Rope
open Go Go.RowKit Go.Proofs.Ytdlnpmbnedmmnaa.Hk Go.Proofs.Ytdlnpmbnedmmnaa.RopePure Go.Proofs.YtdlnpmbnedmmnaaW.PrintWords Go.Proofs.YtdlnpmbnedmmnaaW.PrintLast Go.Proofs.YtdlnpmbnedmmnaaW.PrintMore
/-- A row of numbers that is read. -/
structure Rd (w : World) (A : Option Addr) (c : Nat) (xs : List Int) : Prop where
  none_ : A = none → c = 0
  nil_ : A = none → xs = []
  at_ : ∀ ad, A = some ad → ∀ (j : Nat) (x : Int), xs[j]? = some x → w.cell? (ad.add j) = some (.int .i64 x)
section
variable {w w' : World} {A : Option Addr} {c : Nat} {xs : List Int}
theorem Rd.below (h : Rd w A c xs) (hB : Below w.heap.size w w') : Rd w' A c xs := ⟨h.none_, h.nil_, fun ad e j x hx => pw_cell_below hB (h.at_ ad e j x hx)⟩
theorem Rd.news (h : Rd w A c xs) : ∀ ad, A = some ad → ∀ j u, (xs.map (Value.int .i64))[j]? = some u → w.cell? (ad.add j) = some u := fun ad e j u hu => by
  rw [List.getElem?_map] at hu
  cases hx : xs[j]? with
  | none => rw [hx] at hu; cases hu
  | some x =>
    rw [hx] at hu
    obtain rfl := Option.some.inj hu
    exact h.at_ ad e j x hx
theorem Rd.C (h : Rd w A c xs) (hl : xs.length ≤ 1099511627776) : Kd.C (Kd.int .i64) w A xs.length xs :=
  ⟨rfl, by omega, fun hn => by
    cases A with
    | none => rw [h.nil_ rfl] at hn; exact absurd hn (by simp)
    | some ad =>
      refine ⟨ad, rfl, fun j p hj => ⟨[.int .i64 p], rfl, rfl, fun i u hu => ?_⟩⟩
      match i, hu with
      | 0, hu =>
        obtain rfl : Value.int .i64 p = u := by simpa using hu
        have := h.at_ ad rfl j p hj
        rwa [show j * (Kd.int .i64).sz + 0 = j by show j * 1 + 0 = j; omega]⟩
theorem Rd.of_C {n : Nat} (h : Kd.C (Kd.int .i64) w A n xs) (h0 : A = none → c = 0) (hx : A = none → xs = []) : Rd w A c xs :=
  ⟨h0, hx, fun ad e j x hj => by
    have hlt : j < xs.length := (List.getElem?_eq_some_iff.1 hj).1
    obtain ⟨ad', e', hc⟩ := h.2.2 (by have := h.1; omega)
    rw [e] at e'
    obtain rfl := Option.some.inj e'
    obtain ⟨cs, h1, h2, h3⟩ := hc j x hj
    have h2' : cs = [.int .i64 x] := h2
    subst h2'
    have := h3 0 (.int .i64 x) rfl
    rwa [show j * (Kd.int .i64).sz + 0 = j by show j * 1 + 0 = j; omega] at this⟩
theorem Seg.rd (h : Seg w A c xs) : Rd w A c xs := by
  refine ⟨fun e => ?_, fun e => ?_, fun ad e j x hx => ?_⟩
  · by_cases h0 : 0 < c
    · obtain ⟨b, q, e', _⟩ := h.at_ h0
      rw [e] at e'; cases e'
    · omega
  · by_cases h0 : 0 < xs.length
    · obtain ⟨b, q, e', _⟩ := h.reads h0
      rw [e] at e'; cases e'
    · exact List.eq_nil_of_length_eq_zero (by omega)
  · have hlt : j < xs.length := (List.getElem?_eq_some_iff.1 hx).1
    obtain ⟨b, q, e', hc⟩ := h.reads (by omega)
    rw [e] at e'
    obtain rfl := Option.some.inj e'
    rw [Addr.add_lit]
    exact hc j x hx
end
theorem ints_one (xs : List Int) : ∀ u ∈ xs.map (Value.int .i64), u.oneCell' = true := fun u hu => by
  obtain ⟨x, _, rfl⟩ := List.mem_map.1 hu
  rfl
theorem infoInt : ∃ i, Try.prog.info? 3 = some i ∧ i.zero = some (.int .i64 0) ∧ i.size = 1 ∧ i.bytes = 8 := by
  have h : (Try.prog.info? 3).map (fun i => (i.zero, i.size, i.bytes)) = some (some (.int .i64 0), 1, 8) := by kernel_rfl
  obtain ⟨i, hi, hi2⟩ := Option.map_eq_some_iff.1 h
  simp only [Prod.mk.injEq] at hi2
  exact ⟨i, hi, hi2⟩
/-- A row that a call has made. -/
def Made (w0 w' : World) (v : Value) (xs : List Int) : Prop := w'.ownsRow w0.heap.size 3 1 v xs.length (xs.map (Value.int .i64)) ∧ Below w0.heap.size w0 w'

set_option maxHeartbeats 4000000 in
set_option maxRecDepth 100000 in
theorem concat_any (A1 A2 : Option Addr) (c1 c2 : Nat) (xs ys : List Int) (w : World) (h1 : Rd w A1 c1 xs) (h2 : Rd w A2 c2 ys) (hx : xs.length ≤ 1099511627776) (hy : ys.length ≤ 1099511627776) :
    Calls Try.prog 29 #[.slice A1 xs.length c1, .slice A2 ys.length c2] w fun e w' => ∃ v, e = .returned v ∧ Made w w' v (xs ++ ys) := by
  have H1 := hid h1
  have H2 := hid h2
  have HL := hid (And.intro hx hy)
  have hs : wrap64 ((xs.length : Int) + (ys.length : Int)) = ((xs.length + ys.length : Nat) : Int) := by rw [IntWalk.wrap64_in _ (by omega)]; omega
  obtain ⟨i, hi, hz, hsz, hb⟩ := infoInt
  clear h1 h2
  go_enter Try.func29, Try.ntmps29
  go_wp2_with (first
    | (at_make; refine wpList_make_own _ rfl _ _ 24 rfl w.heap.size 3 i (.int .i64 0) 1 Try.underlying24 hi hz hsz .i64 .i64 _ (xs.length + ys.length) rfl rfl (by first | omega | exact hs) (by rw [hb]; omega) (by unfold maxLen; omega) (Nat.le_refl _) ?_; intro w1 o1 g1; have O1 := hid (And.intro o1 g1); clear o1 g1)
    | (at_builtin; refine wpList_append_fits_any _ rfl (.tmp 12) (.tmp 13) 24 rfl w.heap.size 3 i 1 Try.underlying24 hi hsz w.heap.size 0 (xs.length + ys.length) [] rfl O1.out.1 A1 xs.length c1 (xs.map (Value.int .i64)) rfl (by simp) ?n1 ?c1 (ints_one _) (by omega) ?_; (case n1 => exact fun e => ⟨by rw [H1.out.nil_ e]; rfl, H1.out.none_ e⟩); (case c1 => exact (H1.out.below (w' := w1) ⟨O1.out.2.os, O1.out.2.tape, O1.out.2.output, O1.out.2.size, fun k hk => O1.out.2.block k hk (by simp)⟩).news); intro w2 o2 g2; have O2 := hid (And.intro (show w2.ownsRow w.heap.size 3 1 (.slice (some ⟨w.heap.size, 0, none⟩) xs.length (xs.length + ys.length)) xs.length (xs.map (Value.int .i64)) by simpa using o2) g2); clear o2 g2)
    | (at_builtin; refine wpList_append_fits_any _ rfl (.tmp 15) (.tmp 16) 24 rfl w.heap.size 3 i 1 Try.underlying24 hi hsz w.heap.size xs.length (xs.length + ys.length) (xs.map (Value.int .i64)) rfl O2.out.1 A2 ys.length c2 (ys.map (Value.int .i64)) rfl (by simp) ?n1 ?c1 (ints_one _) (by omega) ?_; (case n1 => exact fun e => ⟨by rw [H2.out.nil_ e]; rfl, H2.out.none_ e⟩); (case c1 => exact (H2.out.below (w' := w2) ⟨O2.out.2.os.trans O1.out.2.os, O2.out.2.tape.trans O1.out.2.tape, O2.out.2.output.trans O1.out.2.output, Nat.le_trans O1.out.2.size O2.out.2.size, fun k hk => (O2.out.2.block k (Nat.lt_of_lt_of_le hk O1.out.2.size) (by intro e; have := Option.some.inj e; omega)).trans (O1.out.2.block k hk (by simp))⟩).news); intro w3 o3 g3; have O3 := hid (And.intro o3 g3); clear o3 g3))
  go_ret
  refine ⟨_, rfl, ?_, ?_⟩
  · have := O3.out.1
    rw [List.length_append, List.map_append]
    simpa using this
  · have B1 := O1.out.2
    have B2 := O2.out.2
    have B3 := O3.out.2
    exact ⟨(B3.os.trans B2.os).trans B1.os, (B3.tape.trans B2.tape).trans B1.tape, (B3.output.trans B2.output).trans B1.output, Nat.le_trans B1.size (Nat.le_trans B2.size B3.size), fun k hk =>
      ((B3.block k (by have := B1.size; have := B2.size; omega) (by intro e; have := Option.some.inj e; omega)).trans (B2.block k (by have := B1.size; omega) (by intro e; have := Option.some.inj e; omega))).trans (B1.block k hk (by simp))⟩
end Go.Proofs.Ytdlnpmbnedmmnaa.Rope
