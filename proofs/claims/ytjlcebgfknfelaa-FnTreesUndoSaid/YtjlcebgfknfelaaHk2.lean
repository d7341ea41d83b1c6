/- Frames, some more. Of no program. -/
import Derived.Test.YtjlcebgfknfelaaHk
import Derived.Deep.Draws
namespace Go.Proofs.Ytjlcebgfknfelaa.Hk
open Go Go.RowKit
theorem Fr.drew2 {Z : Nat → Prop} {a w : World} (h : Fr Z a w) : Fr Z a w.drew.drew := h.drew.drew
theorem Fr.into {Z Z' : Nat → Prop} {a w : World} (h : Fr Z a w) (hs : ∀ n, Z n → Z' n) : Fr Z' a w := h.mono (fun n _ q => hs n q)
theorem Fr.then {Z : Nat → Prop} {a b c : World} (h : Fr Z a b) (k : Fr Z b c) : Fr Z a c := h.trans k (fun _ _ q => q)
theorem Fr.drewN {Z : Nat → Prop} {a w : World} (h : Fr Z a w) (n : Nat) : Fr Z a (w.drewN n) := ⟨h.os, h.tape, h.output, h.size, h.block⟩
theorem Fr.one {w : World} {b i : Nat} {v : Value} : Fr (· = b) w (w.setCell ⟨b, i, none⟩ v) := Fr.setCell (S := (· = b)) (Fr.refl _ _) (p := ⟨b, i, none⟩) (fun _ => rfl) _
theorem Fr.new {Z : Nat → Prop} {w w' : World} (h : Below w.heap.size w w') : Fr Z w w' := ⟨h.os, h.tape, h.output, h.size, fun k hk _ => h.block k hk⟩
/-- A frame whose blocks are all from 'base' on, or new. -/
theorem Fr.under {Z : Nat → Prop} {w w' : World} (h : Fr Z w w') (base : Nat) (hb : base ≤ w.heap.size) (hZ : ∀ k, Z k → base ≤ k) : Below base w w' := h.below hb hZ
theorem Blk.drewN {w : World} {b : Nat} {cs : Array Value} {t : TypeId} (h : Blk w b cs t) (n : Nat) : Blk (w.drewN n) b cs t := h
theorem below_dN {base : Nat} {a w : World} (h : Below base a w) (n : Nat) : Below base a (w.drewN n) := ⟨h.os, h.tape, h.output, h.size, h.block⟩
theorem below_at {base : Nat} {a b c : World} (h : Below base a b) (k : Below b.heap.size b c) (hs : base ≤ b.heap.size) : Below base a c :=
  ⟨k.os.trans h.os, k.tape.trans h.tape, k.output.trans h.output, Nat.le_trans h.size k.size, fun i hi => (k.block i (by omega)).trans (h.block i hi)⟩
theorem hid {p : Prop} (h : p) : Hid p := h
theorem alloc_size (w : World) (o : Obj) : (w.alloc o).heap.size = w.heap.size + 1 := by simp
end Go.Proofs.Ytjlcebgfknfelaa.Hk
