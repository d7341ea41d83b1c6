/- Stacks in memory: a script of steps over stacks, with copies. For every script. -/
import Derived.Test.YtmhnhfmkcipcpaaStackA
import Derived.Test.YtmhnhfmkcipcpaaStackPure
import Derived.Test.YtmhnhfmkcipcpaaHeapI
namespace Go.Proofs.Ytmhnhfmkcipcpaa.Stack
open Go Go.RowKit Go.Proofs.Ytmhnhfmkcipcpaa.Hk Go.Proofs.Ytmhnhfmkcipcpaa.HeapPure Go.Proofs.Ytmhnhfmkcipcpaa.Heap Go.Proofs.Ytmhnhfmkcipcpaa.StackPure Go.Proofs.Ytmhnhfmkcipcpaa.Seen Go.Proofs.YtmhnhfmkcipcpaaW.PrintWords Go.Proofs.YtmhnhfmkcipcpaaW.PrintLast Go.Proofs.YtmhnhfmkcipcpaaW.PrintMore

/-- A stack in memory: its block, its row's value, its numbers. -/
structure Sk where
  b : Nat
  v : Value
  xs : List Int
def ptrV (b : Nat) : Value := .pointer (some ⟨b, 0, none⟩)
def ptrK : Kd Nat := Kd.scalar ptrV (fun _ => rfl)
theorem infoPtr : (Try.prog.info? 53).map (fun i => (i.zero, i.size, i.bytes)) = some (some (.pointer none), 1, 8) := by kernel_rfl
theorem undPtrs : Try.prog.underlying 55 = some (.slice 53) := by kernel_rfl
/-- Stacks, no two of which share anything. -/
structure Al (base : Nat) (w : World) (ks : List Sk) : Prop where
  one : ∀ (i : Nat) (k : Sk), ks[i]? = some k → One base k.b k.v k.xs w
  ap : ∀ (i j : Nat) (k k' : Sk), ks[i]? = some k → ks[j]? = some k' → i ≠ j → k.b ≠ k'.b ∧ ∀ g, k.v.ownBlock = some g → k'.v.ownBlock ≠ some g
section
variable {base b : Nat} {w w1 : World} {ks : List Sk} {k : Sk} {v v' : Value} {xs xs' : List Int}
theorem One.typed (h : One base b v xs w) : ∀ g, v.ownBlock = some g → ∃ cs, w.heap[g]? = some (.cells cs 3 (0, 0)) := fun g hg => by
  obtain ⟨inner, ho⟩ := Kd.R_own h.row
  exact own_typed ho g hg
theorem clash {g : Nat} {cs cs' : Array Value} {t t' : TypeId} (h : w.heap[g]? = some (.cells cs t (0, 0))) (h' : w.heap[g]? = some (.cells cs' t' (0, 0))) (hne : t ≠ t') : False := by
  rw [h] at h'
  injection h' with h'
  injection h' with _ h'
  exact hne h'
/-- What a step on a stack turns. -/
def Zs (k : Sk) (z : Nat) : Prop := z = k.b ∨ k.v.ownBlock = some z
theorem Al.below (h : Al base w ks) (hb : Below w.heap.size w w1) : Al base w1 ks := ⟨fun i k hk => (h.one i k hk).below hb, h.ap⟩
theorem Al.drewN (h : Al base w ks) (n : Nat) : Al base (w.drewN n) ks := ⟨fun i k hk => (h.one i k hk).drewN n, h.ap⟩
/-- A block of another type is none that a step turns. -/
theorem zs_not {i : Nat} (h : Al base w ks) (hk : ks[i]? = some k) {g : Nat} {cs : Array Value} {t : TypeId} (hg : w.heap[g]? = some (.cells cs t (0, 0))) (h1 : t ≠ 107) (h2 : t ≠ 3) : ¬ Zs k g := by
  rintro (rfl | e)
  · exact clash hg (h.one i k hk).blk h1
  · obtain ⟨cs', h'⟩ := (h.one i k hk).typed g e
    exact clash hg h' h2
theorem Al.set {i : Nat} (h : Al base w ks) (hk : ks[i]? = some k) (hO : One base k.b v' xs' w1) (hF : Fr (Zs k) w w1) (hat : v'.ownBlock = k.v.ownBlock ∨ ∃ g, v'.ownBlock = some g ∧ w.heap.size ≤ g) : Al base w1 (ks.set i ⟨k.b, v', xs'⟩) := by
  have hil : i < ks.length := (List.getElem?_eq_some_iff.1 hk).1
  have other : ∀ (j : Nat) (k' : Sk), ks[j]? = some k' → j ≠ i → One base k'.b k'.v k'.xs w1 ∧ k'.b ≠ k.b ∧ (∀ g, k'.v.ownBlock = some g → v'.ownBlock ≠ some g) := by
    intro j k' hk' hne
    have hj := h.one j k' hk'
    have ha := h.ap j i k' k hk' hk hne
    refine ⟨hj.fr hF ?_ ?_, ha.1, ?_⟩
    · rintro (e | e)
      · exact ha.1 e
      · obtain ⟨cs, h'⟩ := (h.one i k hk).typed _ e
        exact clash hj.blk h' (by decide)
    · intro g hg
      rintro (e | e)
      · subst e
        obtain ⟨cs, h'⟩ := hj.typed _ hg
        exact clash (h.one i k hk).blk h' (by decide)
      · exact ha.2 g hg e
    · intro g hg e
      rcases hat with q | ⟨g', q, hge⟩
      · rw [q] at e; exact ha.2 g hg e
      · rw [q] at e; injection e with e; have := Kd.R_lt hj.row g hg; omega
  refine ⟨fun j k' hk' => ?_, fun j j' k1 k2 h1 h2 hne => ?_⟩
  · rw [List.getElem?_set] at hk'
    by_cases c : i = j
    · rw [if_pos c, if_pos hil] at hk'
      injection hk' with hk'
      subst hk'
      exact hO
    · rw [if_neg c] at hk'
      exact (other j k' hk' (fun e => c e.symm)).1
  · rw [List.getElem?_set] at h1 h2
    by_cases c1 : i = j
    · rw [if_pos c1, if_pos hil] at h1
      injection h1 with h1
      subst h1
      rw [if_neg (fun e => hne (c1.symm.trans e))] at h2
      have o := other j' k2 h2 (fun e => hne (c1.symm.trans e.symm))
      exact ⟨o.2.1.symm, fun g e e2 => o.2.2 g e2 e⟩
    · rw [if_neg c1] at h1
      have o := other j k1 h1 (fun e => c1 e.symm)
      by_cases c2 : i = j'
      · rw [if_pos c2, if_pos hil] at h2
        injection h2 with h2
        subst h2
        exact ⟨o.2.1, o.2.2⟩
      · rw [if_neg c2] at h2
        exact h.ap j j' k1 k2 h1 h2 hne
theorem Al.push (h : Al base w ks) (hb : base ≤ w.heap.size) (hO : One w.heap.size b v xs w1) (hB : Below w.heap.size w w1) : Al base w1 (ks ++ [⟨b, v, xs⟩]) := by
  have old : ∀ (j : Nat) (k' : Sk), ks[j]? = some k' → One base k'.b k'.v k'.xs w1 ∧ k'.b ≠ b ∧ ∀ g, k'.v.ownBlock = some g → v.ownBlock ≠ some g := by
    intro j k' hk'
    have hj := h.one j k' hk'
    refine ⟨hj.below hB, ?_, fun g hg e => ?_⟩
    · have := hj.blk.lt; have := hO.ge; omega
    · have := Kd.R_lt hj.row g hg; have := Kd.R_base hO.row g e; omega
  have new : ∀ (j : Nat) (k' : Sk), (ks ++ [⟨b, v, xs⟩])[j]? = some k' → ks[j]? = some k' ∨ (j = ks.length ∧ k' = ⟨b, v, xs⟩) := by
    intro j k' hk'
    by_cases c : j < ks.length
    · rw [List.getElem?_append_left c] at hk'; exact .inl hk'
    · rw [List.getElem?_append_right (by omega)] at hk'
      have c2 : j - ks.length = 0 := by
        rcases Nat.eq_zero_or_pos (j - ks.length) with h0 | h0
        · exact h0
        · rw [List.getElem?_eq_none (by simp; omega)] at hk'; cases hk'
      rw [c2] at hk'
      injection hk' with hk'
      exact .inr ⟨by omega, hk'.symm⟩
  refine ⟨fun j k' hk' => ?_, fun j j' k1 k2 h1 h2 hne => ?_⟩
  · rcases new j k' hk' with q | ⟨_, rfl⟩
    · exact (old j k' q).1
    · exact ⟨hO.blk, Kd.R_lower hO.row hb, Nat.le_trans hb hO.ge⟩
  · rcases new j k1 h1 with q1 | ⟨e1, rfl⟩
    · rcases new j' k2 h2 with q2 | ⟨e2, rfl⟩
      · exact h.ap j j' k1 k2 q1 q2 hne
      · exact ⟨(old j k1 q1).2.1, (old j k1 q1).2.2⟩
    · rcases new j' k2 h2 with q2 | ⟨e2, rfl⟩
      · exact ⟨(old j' k2 q2).2.1.symm, fun g e e2 => (old j' k2 q2).2.2 g e2 e⟩
      · exact absurd (e1.trans e2.symm) hne
/-- A row of pointers, or of what is told, stays while a step is done on a stack. -/
theorem row_zs {α : Type} {d : Kd α} {e i : Nat} {vr : Value} {rs : List α} (hE : d.E = []) (he : e ≠ 107) (he3 : e ≠ 3) (h : Al base w ks) (hk : ks[i]? = some k) (hR : d.R e w base (fun _ => True) vr rs) (hF : Fr (Zs k) w w1) : d.R e w1 base (fun _ => True) vr rs := by
  refine Kd.R_mono (Kd.R_step (Kd.R_reok (ok := fun g => some g = vr.ownBlock) hE hR (fun _ hk => hk.symm)) (fun g hg hlt => hF.block g hlt ?_)) (fun _ _ => trivial)
  obtain ⟨inner, ho⟩ := Kd.R_own hR
  obtain ⟨cells, hc'⟩ := own_typed ho g hg.symm
  exact zs_not h hk hc' he he3
end

/-- What holds within a step of a script that began at w0. -/
structure Sr (base s : Nat) (w0 : World) (ks : List Sk) (va vo : Value) (rs : List (Int × Bool)) (n : Int) (W : World) : Prop where
  al : Al base W ks
  all : ptrK.R 53 W base (fun _ => True) va (ks.map (·.b))
  out : seenN.R 34 W base (fun _ => True) vo rs
  off : ∀ k, vo.ownBlock = some k → k ≠ s + 1
  below : Below base w0 W
  big : base ≤ W.heap.size
  bs : base ≤ s
  x6 : ∃ cs, Blk W s cs 27
  x8 : Blk W (s + 1) (F4 n false) 34
section
variable {base s i : Nat} {w0 W W1 : World} {ks : List Sk} {k : Sk} {va vo : Value} {rs : List (Int × Bool)} {n : Int} {v' : Value} {xs' : List Int}
theorem Sr.step (h : Sr base s w0 ks va vo rs n W) (hk : ks[i]? = some k) (hO : One base k.b v' xs' W1) (hF : Fr (Zs k) W W1) (hat : v'.ownBlock = k.v.ownBlock ∨ ∃ g, v'.ownBlock = some g ∧ W.heap.size ≤ g) : Sr base s w0 (ks.set i ⟨k.b, v', xs'⟩) va vo rs n W1 := by
  have hkb : base ≤ k.b := (h.al.one i k hk).ge
  have hz : ∀ z, Zs k z → base ≤ z := by
    rintro z (rfl | e)
    · exact hkb
    · exact Kd.R_base (h.al.one i k hk).row z e
  have hmap : (ks.set i ⟨k.b, v', xs'⟩).map (·.b) = ks.map (·.b) := by
    rw [List.map_set]
    apply List.ext_getElem?
    intro j
    rw [List.getElem?_set]
    split
    · rename_i e
      subst e
      rw [List.getElem?_map, hk, List.length_map, if_pos (List.getElem?_eq_some_iff.1 hk).1]
      rfl
    · rfl
  obtain ⟨cs, h6⟩ := h.x6
  refine ⟨h.al.set hk hO hF hat, ?_, row_zs (d := seenN) rfl (by decide) (by decide) h.al hk h.out hF, h.off, h.below.trans (hF.below h.big hz), Nat.le_trans h.big hF.size, h.bs, ⟨cs, h6.fr hF (zs_not h.al hk h6 (by decide) (by decide))⟩, h.x8.fr hF (zs_not h.al hk h.x8 (by decide) (by decide))⟩
  rw [hmap]
  exact row_zs (d := ptrK) rfl (by decide) (by decide) h.al hk h.all hF
theorem Sr.set8 (h : Sr base s w0 ks va vo rs n W) (m : Int) : Sr base s w0 ks va vo rs m (W.setCell ⟨s + 1, 0, none⟩ (.int .i64 m)) := by
  have hF : Fr (· = s + 1) W (W.setCell ⟨s + 1, 0, none⟩ (.int .i64 m)) := Fr.one
  have hB : Below base W (W.setCell ⟨s + 1, 0, none⟩ (.int .i64 m)) := hF.below h.big (fun k hk => by have := h.bs; omega)
  obtain ⟨cs, h6⟩ := h.x6
  refine ⟨⟨fun i k hk => (h.al.one i k hk).fr hF (fun e => ?_) (fun g hg e => ?_), h.al.ap⟩, ?_, ?_, h.off, h.below.trans hB, Nat.le_trans h.big hF.size, h.bs, ⟨cs, h6.fr hF (by omega)⟩, h.x8.set 0 _⟩
  · have h1 := (h.al.one i k hk).blk
    rw [e] at h1
    exact clash h1 h.x8 (by decide)
  · subst e
    obtain ⟨cs', h'⟩ := (h.al.one i k hk).typed _ hg
    exact clash h' h.x8 (by decide)
  · exact Kd.R_mono (Kd.R_step (Kd.R_reok (ok := fun g => some g = va.ownBlock) rfl h.all (fun _ hk => hk.symm)) (fun g hg hlt => hF.block g hlt (fun e => by
      subst e
      obtain ⟨inner, ho⟩ := Kd.R_own h.all
      obtain ⟨cells, hc'⟩ := own_typed ho _ hg.symm
      exact clash hc' h.x8 (by decide)))) (fun _ _ => trivial)
  · exact Kd.R_mono (Kd.R_step (Kd.R_reok (ok := fun g => some g = vo.ownBlock) rfl h.out (fun _ hk => hk.symm)) (fun g hg hlt => hF.block g hlt (fun e => h.off g hg.symm e))) (fun _ _ => trivial)
theorem Sr.drewN (h : Sr base s w0 ks va vo rs n W) (m : Nat) : Sr base s w0 ks va vo rs n (W.drewN m) := by
  obtain ⟨cs, h6⟩ := h.x6
  exact ⟨h.al.drewN m, Kd.R_drewN h.all m, Kd.R_drewN h.out m, h.off, below_dN h.below m, h.big, h.bs, ⟨cs, h6.drewN m⟩, h.x8.drewN m⟩
end

/-- What holds between the steps of a script that began at w0. -/
structure Rn (base : Nat) (w0 : World) (l : List St) (i : Nat) (ks : List Sk) (va vo : Value) (rs : List (Int × Bool)) (W : World) : Prop where
  al : Al base W ks
  all : ptrK.R 53 W base (fun _ => True) va (ks.map (·.b))
  out : seenN.R 34 W base (fun _ => True) vo rs
  below : Below base w0 W
  big : base ≤ W.heap.size
  told : rs ++ toldS (ks.map (·.xs)) (l.drop i) = toldS [[]] l
  len : ks ≠ [] ∧ ks.length ≤ i + 1
  each : ∀ (j : Nat) (k : Sk), ks[j]? = some k → k.xs.length ≤ i
  rlen : rs.length = i
theorem at_ptr {w : World} {A : Option Addr} {n : Nat} {xs : List Nat} (h : Kd.C ptrK w A n xs) (i : Int) (h0 : 0 ≤ i) (h1 : i < n) : ∃ ad, A = some ad ∧ w.cell? (ad.add i.toNat) = some (ptrV (xs.getD i.toNat 0)) :=
  ReadsOf.at_ (Kd.reads_of_C (enc := ptrV) (d := (0 : Nat)) (h1 := fun _ => rfl) h) i h0 h1
end Go.Proofs.Ytmhnhfmkcipcpaa.Stack
