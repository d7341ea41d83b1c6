/- What a step tells of a number and a yes or no, with no rows: as a kind; a step's four numbers. Of no program. -/
import Derived.Test.YtmhnhfmkcipcpaaWMore
import Derived.Test.YtmhnhfmkcipcpaaRow
namespace Go.Proofs.Ytmhnhfmkcipcpaa.Seen
open Go Go.RowKit Go.Proofs.Ytmhnhfmkcipcpaa.Hk Go.Proofs.YtmhnhfmkcipcpaaW.PrintWords Go.Proofs.YtmhnhfmkcipcpaaW.PrintLast Go.Proofs.YtmhnhfmkcipcpaaW.PrintMore

def cells (x : Int × Bool) : List Value := [.int .i64 x.1, .bool x.2, .slice none 0 0, .slice none 0 0]
theorem cells_one {x : Int × Bool} : ∀ u ∈ cells x, u.oneCell' = true := by
  intro u hu
  simp only [cells, List.mem_cons, List.not_mem_nil, or_false] at hu
  rcases hu with rfl | rfl | rfl | rfl <;> rfl
def seenN : Kd (Int × Bool) where
  sz := 4
  E := []
  K := fun _ x cs => cs = cells x
  M := fun _ _ _ x cs => cs = cells x
  K_len := fun h => by rw [h]; rfl
  K_one := fun h u hu => by
    rw [h] at hu
    exact cells_one u hu
  K_below := fun _ h => h
  K_of_M := fun h => h
  M_mono := fun _ h => h
  M_bound := fun h => h
  M_move := fun _ h => h
  M_lower := fun _ h => h

abbrev St := Int × Int × Int × Int
def stK : Kd St := Kd.pair (Kd.int .i64) (Kd.pair (Kd.int .i64) (Kd.pair (Kd.int .i64) (Kd.int .i64)))
theorem at_st {w : World} {A : Option Addr} {n : Nat} {xs : List St} (h : Kd.C stK w A n xs) (i : Nat) (hi : i < xs.length) : ∃ ad, A = some ad ∧ w.cell? (ad.add (i * 4)) = some (.int .i64 xs[i].1) ∧
    w.cell? ⟨(ad.add (i * 4)).block, (ad.add (i * 4)).off + 1, none⟩ = some (.int .i64 xs[i].2.1) ∧ w.cell? ⟨(ad.add (i * 4)).block, (ad.add (i * 4)).off + 2, none⟩ = some (.int .i64 xs[i].2.2.1) ∧ w.cell? ⟨(ad.add (i * 4)).block, (ad.add (i * 4)).off + 3, none⟩ = some (.int .i64 xs[i].2.2.2) := by
  have hn := h.1
  obtain ⟨ad, c, e, _, hK, hc0⟩ := Kd.C_get h ((0, 0, 0, 0) : St) i (by omega) (by omega)
  have hx : xs.getD (i : Int).toNat (0, 0, 0, 0) = xs[i] := by simp [List.getD_eq_getElem?_getD, hi]
  rw [hx] at hK
  have hc : ∀ j u, c[j]? = some u → w.cell? (ad.add (i * 4 + j)) = some u := hc0
  obtain ⟨c0, c1, rfl, h0, d0, d1, rfl, h1, e0, e1, rfl, h2, h3⟩ := hK
  cases h0; cases h1; cases h2; cases h3
  exact ⟨ad, e, hc 0 _ rfl, by rw [← add_field _ _ 1 (by omega)]; exact hc 1 _ rfl, by rw [← add_field _ _ 2 (by omega)]; exact hc 2 _ rfl, by rw [← add_field _ _ 3 (by omega)]; exact hc 3 _ rfl⟩
theorem R_map {α β : Type} {d : Kd α} {d' : Kd β} {g : α → β} (hs : d.sz = d'.sz) (hM : ∀ w base ok x cs, d.M w base ok x cs → d'.M w base ok (g x) cs) {e : Nat} {w : World} {base : Nat} {ok : Nat → Prop} {v : Value} {xs : List α} (h : d.R e w base ok v xs) : d'.R e w base ok v (xs.map g) := by
  obtain ⟨h0, inner, ho, hr⟩ := h
  refine ⟨h0, inner, by rw [List.length_map, ← hs]; exact ho, ?_⟩
  refine ⟨by rw [List.length_map, ← hs]; exact hr.1, fun j p hj => ?_⟩
  rw [List.getElem?_map] at hj
  obtain ⟨q, hq, rfl⟩ := Option.map_eq_some_iff.1 hj
  have := hr.2 j q hq
  rw [← hs]
  exact hM _ _ _ _ _ this
end Go.Proofs.Ytmhnhfmkcipcpaa.Seen
