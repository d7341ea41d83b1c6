/-
  No cell of these rows narrows 'for every input' (looked for: loops, veiled, ifaces, maps, wideKeys, modest, calm, conditions, laid).
  DERIVED. THE GIVEN ROWS OF THIS SEAT. 6 by the template 'for every input the law returns true; each argument reads behind the call as it read before'; 0 by the template 'total and deterministic' (their statements: YtkgbflcbeeghoaaTotals.lean).
  GIVEN WITH THE SEED: the statements are not yours to turn. If you find one false, say at which input.
  Laid BY PROGRAM, IN A SANDBOX (cutbox-rows.mjs): the forced cells as the released guide's own fill.sh prints them over the translation abf5df5cd36d03bd… (all of the seat's roots in one cut). By AI agents, Wed Nov 11 2026. No macro, syntax, notation, axiom, sorry.
-/
import Derived.Test.YtkgbflcbeeghoaaChecked
import GoSem.Claim
import GoSem.ClaimJoined
import GoSem.ClaimMapViews
import Derived.JoinedTies
import Derived.KernelRfl
namespace Go.Proofs.Ytkgbflcbeeghoaa
/- THE CELL 'sum', in the pinned program and in every row, IS THE sha256 OF THE DUMP (.gsa) THAT YtkgbflcbeeghoaaProg.lean LOADS. Nothing in Lean hashes anything: it is a label: what it is worth is what the hold of that sum in a sandbox is worth. -/
noncomputable def Try.pinned : Pinned := { name := "ytkgbflcbeeghoaa", sum := "abf5df5cd36d03bd0dc02944751056ceb7e60dc53a1baf315c2ca86f7e2582aa", checked := Try.checked }
namespace Rows
def none {H : Type} : Left H := { results := [], args := [] }

/-- 'laws.FnTrieKeys': WHATEVER THE INPUT: true; the input reads as it did. -/
def fnTrieKeysSpec : ChangeSpec := { name := "fnTrieKeys", fn := fun _ => fun
  | [d1, d2] => { results := [.lit (.bool true)], args := [d1, d2] }
  | _ => none }
def fnTrieKeysRow : OpenClaim := { program := "ytkgbflcbeeghoaa", sum := "abf5df5cd36d03bd0dc02944751056ceb7e60dc53a1baf315c2ca86f7e2582aa", func := "pub-copsewood/laws.FnTrieKeys", spec := "fnTrieKeys", recurses := true, apart := false }
def FnTrieKeysSaid : Prop := fnTrieKeysRow.holds Try.pinned (OpenSpec.ofChange fnTrieKeysSpec)

/-- ITS FALSE NEIGHBOUR: 'it returns false'. Refute it at one input. -/
def fnTrieKeysWrong : ChangeSpec := { name := "fnTrieKeys", fn := fun _ => fun
  | [d1, d2] => { results := [.lit (.bool false)], args := [d1, d2] }
  | _ => none }
def FnTrieKeysWrongFalsely : Prop := fnTrieKeysRow.holds Try.pinned (OpenSpec.ofChange fnTrieKeysWrong)

/-- 'laws.FnTrieNarrow': WHATEVER THE INPUT: true; the input reads as it did. -/
def fnTrieNarrowSpec : ChangeSpec := { name := "fnTrieNarrow", fn := fun _ => fun
  | [d1, d2, d3] => { results := [.lit (.bool true)], args := [d1, d2, d3] }
  | _ => none }
def fnTrieNarrowRow : OpenClaim := { program := "ytkgbflcbeeghoaa", sum := "abf5df5cd36d03bd0dc02944751056ceb7e60dc53a1baf315c2ca86f7e2582aa", func := "pub-copsewood/laws.FnTrieNarrow", spec := "fnTrieNarrow", recurses := true, apart := false }
def FnTrieNarrowSaid : Prop := fnTrieNarrowRow.holds Try.pinned (OpenSpec.ofChange fnTrieNarrowSpec)

/-- ITS FALSE NEIGHBOUR: 'it returns false'. Refute it at one input. -/
def fnTrieNarrowWrong : ChangeSpec := { name := "fnTrieNarrow", fn := fun _ => fun
  | [d1, d2, d3] => { results := [.lit (.bool false)], args := [d1, d2, d3] }
  | _ => none }
def FnTrieNarrowWrongFalsely : Prop := fnTrieNarrowRow.holds Try.pinned (OpenSpec.ofChange fnTrieNarrowWrong)

/-- 'laws.FnTrieRuns': WHATEVER THE INPUT: true; the input reads as it did. -/
def fnTrieRunsSpec : ChangeSpec := { name := "fnTrieRuns", fn := fun _ => fun
  | [d] => { results := [.lit (.bool true)], args := [d] }
  | _ => none }
def fnTrieRunsRow : OpenClaim := { program := "ytkgbflcbeeghoaa", sum := "abf5df5cd36d03bd0dc02944751056ceb7e60dc53a1baf315c2ca86f7e2582aa", func := "pub-copsewood/laws.FnTrieRuns", spec := "fnTrieRuns", recurses := true, apart := false }
def FnTrieRunsSaid : Prop := fnTrieRunsRow.holds Try.pinned (OpenSpec.ofChange fnTrieRunsSpec)

/-- ITS FALSE NEIGHBOUR: 'it returns false'. Refute it at one input. -/
def fnTrieRunsWrong : ChangeSpec := { name := "fnTrieRuns", fn := fun _ => fun
  | [d] => { results := [.lit (.bool false)], args := [d] }
  | _ => none }
def FnTrieRunsWrongFalsely : Prop := fnTrieRunsRow.holds Try.pinned (OpenSpec.ofChange fnTrieRunsWrong)

/-- 'laws.FnTrieUndo': WHATEVER THE INPUT: true; the input reads as it did. -/
def fnTrieUndoSpec : ChangeSpec := { name := "fnTrieUndo", fn := fun _ => fun
  | [d1, d2, d3, d4] => { results := [.lit (.bool true)], args := [d1, d2, d3, d4] }
  | _ => none }
def fnTrieUndoRow : OpenClaim := { program := "ytkgbflcbeeghoaa", sum := "abf5df5cd36d03bd0dc02944751056ceb7e60dc53a1baf315c2ca86f7e2582aa", func := "pub-copsewood/laws.FnTrieUndo", spec := "fnTrieUndo", recurses := true, apart := false }
def FnTrieUndoSaid : Prop := fnTrieUndoRow.holds Try.pinned (OpenSpec.ofChange fnTrieUndoSpec)

/-- ITS FALSE NEIGHBOUR: 'it returns false'. Refute it at one input. -/
def fnTrieUndoWrong : ChangeSpec := { name := "fnTrieUndo", fn := fun _ => fun
  | [d1, d2, d3, d4] => { results := [.lit (.bool false)], args := [d1, d2, d3, d4] }
  | _ => none }
def FnTrieUndoWrongFalsely : Prop := fnTrieUndoRow.holds Try.pinned (OpenSpec.ofChange fnTrieUndoWrong)

/-- 'laws.FnTrieShape': WHATEVER THE INPUT: true; the input reads as it did. -/
def fnTrieShapeSpec : ChangeSpec := { name := "fnTrieShape", fn := fun _ => fun
  | [d] => { results := [.lit (.bool true)], args := [d] }
  | _ => none }
def fnTrieShapeRow : OpenClaim := { program := "ytkgbflcbeeghoaa", sum := "abf5df5cd36d03bd0dc02944751056ceb7e60dc53a1baf315c2ca86f7e2582aa", func := "pub-copsewood/laws.FnTrieShape", spec := "fnTrieShape", recurses := true, apart := false }
def FnTrieShapeSaid : Prop := fnTrieShapeRow.holds Try.pinned (OpenSpec.ofChange fnTrieShapeSpec)

/-- ITS FALSE NEIGHBOUR: 'it returns false'. Refute it at one input. -/
def fnTrieShapeWrong : ChangeSpec := { name := "fnTrieShape", fn := fun _ => fun
  | [d] => { results := [.lit (.bool false)], args := [d] }
  | _ => none }
def FnTrieShapeWrongFalsely : Prop := fnTrieShapeRow.holds Try.pinned (OpenSpec.ofChange fnTrieShapeWrong)

/-- 'laws.FnTrieTree': WHATEVER THE INPUT: true; the input reads as it did. -/
def fnTrieTreeSpec : ChangeSpec := { name := "fnTrieTree", fn := fun _ => fun
  | [d1, d2] => { results := [.lit (.bool true)], args := [d1, d2] }
  | _ => none }
def fnTrieTreeRow : OpenClaim := { program := "ytkgbflcbeeghoaa", sum := "abf5df5cd36d03bd0dc02944751056ceb7e60dc53a1baf315c2ca86f7e2582aa", func := "pub-copsewood/laws.FnTrieTree", spec := "fnTrieTree", unfollowed := true, recurses := true, apart := false }
def FnTrieTreeSaid : Prop := fnTrieTreeRow.holds Try.pinned (OpenSpec.ofChange fnTrieTreeSpec)

/-- ITS FALSE NEIGHBOUR: 'it returns false'. Refute it at one input. -/
def fnTrieTreeWrong : ChangeSpec := { name := "fnTrieTree", fn := fun _ => fun
  | [d1, d2] => { results := [.lit (.bool false)], args := [d1, d2] }
  | _ => none }
def FnTrieTreeWrongFalsely : Prop := fnTrieTreeRow.holds Try.pinned (OpenSpec.ofChange fnTrieTreeWrong)

/- THE SECOND FORM. 'bulk': how many values and letters a reading holds, each counted each time it is reached (what is shared counts as often as it is met; a slice's spare places count too). A statement '..UptoSaid' is the law's where the arguments, and the package variables that the reading takes, are together of bulk at most 1048576: NARROWER than '..Said'. Prove '..Said' where nothing that the law and all that it calls make is longer than what came in: it says more and counts as full. Else prove '..UptoSaid'. A law counts once. -/
mutual
def uptoBulk {H : Type} : DataW H → Nat
  | .lit (.string bytes) => bytes.length + 1
  | .lit _ => 1
  | .nil => 1
  | .ptr d => uptoBulk d + 1
  | .slice elems spare => uptoBulkAll elems + uptoBulkAll spare + 1
  | .agg parts => uptoBulkAll parts + 1
  | .iface _ d => uptoBulk d + 1
  | .map entries => uptoBulkEntries entries + 1
  | .held _ => 1
def uptoBulkAll {H : Type} : List (DataW H) → Nat
  | [] => 0
  | d :: r => uptoBulk d + uptoBulkAll r
def uptoBulkEntries {H : Type} : List (Lit × DataW H) → Nat
  | [] => 0
  | x :: r => uptoBulkEntry x + uptoBulkEntries r
def uptoBulkEntry {H : Type} : Lit × DataW H → Nat
  | (.string bytes, d) => bytes.length + uptoBulk d + 1
  | (_, d) => uptoBulk d + 1
 end
def uptoSmall : (H : Type) → List (DataW H) → Bool := fun _ ds => decide (uptoBulkAll ds ≤ 1048576)
def OpenSpec.upto (s : _root_.Go.ChangeSpec) : _root_.Go.OpenSpec := { _root_.Go.OpenSpec.ofChange s with cond := some uptoSmall }

/-- 'laws.FnTrieKeys', WHERE WHAT IT READS IS OF BULK AT MOST 1048576: true; the input reads as it did. -/
def fnTrieKeysUptoRow : OpenClaim := { program := "ytkgbflcbeeghoaa", sum := "abf5df5cd36d03bd0dc02944751056ceb7e60dc53a1baf315c2ca86f7e2582aa", func := "pub-copsewood/laws.FnTrieKeys", spec := "fnTrieKeys", recurses := true, apart := false, narrowed := true }
def FnTrieKeysUptoSaid : Prop := fnTrieKeysUptoRow.holds Try.pinned (OpenSpec.upto fnTrieKeysSpec)

/-- 'laws.FnTrieNarrow', WHERE WHAT IT READS IS OF BULK AT MOST 1048576: true; the input reads as it did. -/
def fnTrieNarrowUptoRow : OpenClaim := { program := "ytkgbflcbeeghoaa", sum := "abf5df5cd36d03bd0dc02944751056ceb7e60dc53a1baf315c2ca86f7e2582aa", func := "pub-copsewood/laws.FnTrieNarrow", spec := "fnTrieNarrow", recurses := true, apart := false, narrowed := true }
def FnTrieNarrowUptoSaid : Prop := fnTrieNarrowUptoRow.holds Try.pinned (OpenSpec.upto fnTrieNarrowSpec)

/-- 'laws.FnTrieRuns', WHERE WHAT IT READS IS OF BULK AT MOST 1048576: true; the input reads as it did. -/
def fnTrieRunsUptoRow : OpenClaim := { program := "ytkgbflcbeeghoaa", sum := "abf5df5cd36d03bd0dc02944751056ceb7e60dc53a1baf315c2ca86f7e2582aa", func := "pub-copsewood/laws.FnTrieRuns", spec := "fnTrieRuns", recurses := true, apart := false, narrowed := true }
def FnTrieRunsUptoSaid : Prop := fnTrieRunsUptoRow.holds Try.pinned (OpenSpec.upto fnTrieRunsSpec)

/-- 'laws.FnTrieUndo', WHERE WHAT IT READS IS OF BULK AT MOST 1048576: true; the input reads as it did. -/
def fnTrieUndoUptoRow : OpenClaim := { program := "ytkgbflcbeeghoaa", sum := "abf5df5cd36d03bd0dc02944751056ceb7e60dc53a1baf315c2ca86f7e2582aa", func := "pub-copsewood/laws.FnTrieUndo", spec := "fnTrieUndo", recurses := true, apart := false, narrowed := true }
def FnTrieUndoUptoSaid : Prop := fnTrieUndoUptoRow.holds Try.pinned (OpenSpec.upto fnTrieUndoSpec)

/-- 'laws.FnTrieShape', WHERE WHAT IT READS IS OF BULK AT MOST 1048576: true; the input reads as it did. -/
def fnTrieShapeUptoRow : OpenClaim := { program := "ytkgbflcbeeghoaa", sum := "abf5df5cd36d03bd0dc02944751056ceb7e60dc53a1baf315c2ca86f7e2582aa", func := "pub-copsewood/laws.FnTrieShape", spec := "fnTrieShape", recurses := true, apart := false, narrowed := true }
def FnTrieShapeUptoSaid : Prop := fnTrieShapeUptoRow.holds Try.pinned (OpenSpec.upto fnTrieShapeSpec)

/-- 'laws.FnTrieTree', WHERE WHAT IT READS IS OF BULK AT MOST 1048576: true; the input reads as it did. -/
def fnTrieTreeUptoRow : OpenClaim := { program := "ytkgbflcbeeghoaa", sum := "abf5df5cd36d03bd0dc02944751056ceb7e60dc53a1baf315c2ca86f7e2582aa", func := "pub-copsewood/laws.FnTrieTree", spec := "fnTrieTree", unfollowed := true, recurses := true, apart := false, narrowed := true }
def FnTrieTreeUptoSaid : Prop := fnTrieTreeUptoRow.holds Try.pinned (OpenSpec.upto fnTrieTreeSpec)

end Rows
end Go.Proofs.Ytkgbflcbeeghoaa
