/-
  No cell of these rows narrows 'for every input' (looked for: loops, veiled, ifaces, maps, wideKeys, modest, calm, conditions, laid).
  DERIVED. THE GIVEN ROWS OF THIS SEAT. 10 by the template 'for every input the law returns true; each argument reads behind the call as it read before'; 0 by the template 'total and deterministic' (their statements: YtjlcebgfknfelaaTotals.lean).
  GIVEN WITH THE SEED: the statements are not yours to turn. If you find one false, say at which input.
  Laid BY PROGRAM, IN A SANDBOX (cutbox-rows.mjs): the forced cells as the released guide's own fill.sh prints them over the translation 19e5d69f1db07f4c… (all of the seat's roots in one cut). By AI agents, Wed Nov 11 2026. No macro, syntax, notation, axiom, sorry.
-/
import Derived.Test.YtjlcebgfknfelaaChecked
import GoSem.Claim
import GoSem.ClaimJoined
import GoSem.ClaimMapViews
import Derived.JoinedTies
import Derived.KernelRfl
namespace Go.Proofs.Ytjlcebgfknfelaa
/- THE CELL 'sum', in the pinned program and in every row, IS THE sha256 OF THE DUMP (.gsa) THAT YtjlcebgfknfelaaProg.lean LOADS. Nothing in Lean hashes anything: it is a label: what it is worth is what the hold of that sum in a sandbox is worth. -/
noncomputable def Try.pinned : Pinned := { name := "ytjlcebgfknfelaa", sum := "19e5d69f1db07f4c97580e4b4d1dab2d09ecd6242fff091dcdff49c5522e8fd5", checked := Try.checked }
namespace Rows
def none {H : Type} : Left H := { results := [], args := [] }

/-- 'laws.FnAvlTurnKeeps': WHATEVER THE INPUT: true; the input reads as it did. -/
def fnAvlTurnKeepsSpec : ChangeSpec := { name := "fnAvlTurnKeeps", fn := fun _ => fun
  | [d1, d2] => { results := [.lit (.bool true)], args := [d1, d2] }
  | _ => none }
def fnAvlTurnKeepsRow : OpenClaim := { program := "ytjlcebgfknfelaa", sum := "19e5d69f1db07f4c97580e4b4d1dab2d09ecd6242fff091dcdff49c5522e8fd5", func := "pub-copsewood/laws.FnAvlTurnKeeps", spec := "fnAvlTurnKeeps", recurses := true, apart := false }
def FnAvlTurnKeepsSaid : Prop := fnAvlTurnKeepsRow.holds Try.pinned (OpenSpec.ofChange fnAvlTurnKeepsSpec)

/-- ITS FALSE NEIGHBOUR: 'it returns false'. Refute it at one input. -/
def fnAvlTurnKeepsWrong : ChangeSpec := { name := "fnAvlTurnKeeps", fn := fun _ => fun
  | [d1, d2] => { results := [.lit (.bool false)], args := [d1, d2] }
  | _ => none }
def FnAvlTurnKeepsWrongFalsely : Prop := fnAvlTurnKeepsRow.holds Try.pinned (OpenSpec.ofChange fnAvlTurnKeepsWrong)

/-- 'laws.FnAvlRebalances': WHATEVER THE INPUT: true; the input reads as it did. -/
def fnAvlRebalancesSpec : ChangeSpec := { name := "fnAvlRebalances", fn := fun _ => fun
  | [d] => { results := [.lit (.bool true)], args := [d] }
  | _ => none }
def fnAvlRebalancesRow : OpenClaim := { program := "ytjlcebgfknfelaa", sum := "19e5d69f1db07f4c97580e4b4d1dab2d09ecd6242fff091dcdff49c5522e8fd5", func := "pub-copsewood/laws.FnAvlRebalances", spec := "fnAvlRebalances", recurses := true, apart := false }
def FnAvlRebalancesSaid : Prop := fnAvlRebalancesRow.holds Try.pinned (OpenSpec.ofChange fnAvlRebalancesSpec)

/-- ITS FALSE NEIGHBOUR: 'it returns false'. Refute it at one input. -/
def fnAvlRebalancesWrong : ChangeSpec := { name := "fnAvlRebalances", fn := fun _ => fun
  | [d] => { results := [.lit (.bool false)], args := [d] }
  | _ => none }
def FnAvlRebalancesWrongFalsely : Prop := fnAvlRebalancesRow.holds Try.pinned (OpenSpec.ofChange fnAvlRebalancesWrong)

/-- 'laws.FnAvlFirst': WHATEVER THE INPUT: true; the input reads as it did. -/
def fnAvlFirstSpec : ChangeSpec := { name := "fnAvlFirst", fn := fun _ => fun
  | [d1, d2] => { results := [.lit (.bool true)], args := [d1, d2] }
  | _ => none }
def fnAvlFirstRow : OpenClaim := { program := "ytjlcebgfknfelaa", sum := "19e5d69f1db07f4c97580e4b4d1dab2d09ecd6242fff091dcdff49c5522e8fd5", func := "pub-copsewood/laws.FnAvlFirst", spec := "fnAvlFirst", unfollowed := true, recurses := true, apart := false }
def FnAvlFirstSaid : Prop := fnAvlFirstRow.holds Try.pinned (OpenSpec.ofChange fnAvlFirstSpec)

/-- ITS FALSE NEIGHBOUR: 'it returns false'. Refute it at one input. -/
def fnAvlFirstWrong : ChangeSpec := { name := "fnAvlFirst", fn := fun _ => fun
  | [d1, d2] => { results := [.lit (.bool false)], args := [d1, d2] }
  | _ => none }
def FnAvlFirstWrongFalsely : Prop := fnAvlFirstRow.holds Try.pinned (OpenSpec.ofChange fnAvlFirstWrong)

/-- 'laws.FnAvlHeight': WHATEVER THE INPUT: true; the input reads as it did. -/
def fnAvlHeightSpec : ChangeSpec := { name := "fnAvlHeight", fn := fun _ => fun
  | [d1, d2] => { results := [.lit (.bool true)], args := [d1, d2] }
  | _ => none }
def fnAvlHeightRow : OpenClaim := { program := "ytjlcebgfknfelaa", sum := "19e5d69f1db07f4c97580e4b4d1dab2d09ecd6242fff091dcdff49c5522e8fd5", func := "pub-copsewood/laws.FnAvlHeight", spec := "fnAvlHeight", unfollowed := true, recurses := true, apart := false }
def FnAvlHeightSaid : Prop := fnAvlHeightRow.holds Try.pinned (OpenSpec.ofChange fnAvlHeightSpec)

/-- ITS FALSE NEIGHBOUR: 'it returns false'. Refute it at one input. -/
def fnAvlHeightWrong : ChangeSpec := { name := "fnAvlHeight", fn := fun _ => fun
  | [d1, d2] => { results := [.lit (.bool false)], args := [d1, d2] }
  | _ => none }
def FnAvlHeightWrongFalsely : Prop := fnAvlHeightRow.holds Try.pinned (OpenSpec.ofChange fnAvlHeightWrong)

/-- 'laws.FnAvlRuns': WHATEVER THE INPUT: true; the input reads as it did. -/
def fnAvlRunsSpec : ChangeSpec := { name := "fnAvlRuns", fn := fun _ => fun
  | [d1, d2] => { results := [.lit (.bool true)], args := [d1, d2] }
  | _ => none }
def fnAvlRunsRow : OpenClaim := { program := "ytjlcebgfknfelaa", sum := "19e5d69f1db07f4c97580e4b4d1dab2d09ecd6242fff091dcdff49c5522e8fd5", func := "pub-copsewood/laws.FnAvlRuns", spec := "fnAvlRuns", unfollowed := true, recurses := true, apart := false }
def FnAvlRunsSaid : Prop := fnAvlRunsRow.holds Try.pinned (OpenSpec.ofChange fnAvlRunsSpec)

/-- ITS FALSE NEIGHBOUR: 'it returns false'. Refute it at one input. -/
def fnAvlRunsWrong : ChangeSpec := { name := "fnAvlRuns", fn := fun _ => fun
  | [d1, d2] => { results := [.lit (.bool false)], args := [d1, d2] }
  | _ => none }
def FnAvlRunsWrongFalsely : Prop := fnAvlRunsRow.holds Try.pinned (OpenSpec.ofChange fnAvlRunsWrong)

/-- 'laws.FnAvlOnRuns': WHATEVER THE INPUT: true; the input reads as it did. -/
def fnAvlOnRunsSpec : ChangeSpec := { name := "fnAvlOnRuns", fn := fun _ => fun
  | [d1, d2, d3] => { results := [.lit (.bool true)], args := [d1, d2, d3] }
  | _ => none }
def fnAvlOnRunsRow : OpenClaim := { program := "ytjlcebgfknfelaa", sum := "19e5d69f1db07f4c97580e4b4d1dab2d09ecd6242fff091dcdff49c5522e8fd5", func := "pub-copsewood/laws.FnAvlOnRuns", spec := "fnAvlOnRuns", unfollowed := true, recurses := true, apart := false }
def FnAvlOnRunsSaid : Prop := fnAvlOnRunsRow.holds Try.pinned (OpenSpec.ofChange fnAvlOnRunsSpec)

/-- ITS FALSE NEIGHBOUR: 'it returns false'. Refute it at one input. -/
def fnAvlOnRunsWrong : ChangeSpec := { name := "fnAvlOnRuns", fn := fun _ => fun
  | [d1, d2, d3] => { results := [.lit (.bool false)], args := [d1, d2, d3] }
  | _ => none }
def FnAvlOnRunsWrongFalsely : Prop := fnAvlOnRunsRow.holds Try.pinned (OpenSpec.ofChange fnAvlOnRunsWrong)

/-- 'laws.FnTreesAgree': WHATEVER THE INPUT: true; the input reads as it did. -/
def fnTreesAgreeSpec : ChangeSpec := { name := "fnTreesAgree", fn := fun _ => fun
  | [d1, d2] => { results := [.lit (.bool true)], args := [d1, d2] }
  | _ => none }
def fnTreesAgreeRow : OpenClaim := { program := "ytjlcebgfknfelaa", sum := "19e5d69f1db07f4c97580e4b4d1dab2d09ecd6242fff091dcdff49c5522e8fd5", func := "pub-copsewood/laws.FnTreesAgree", spec := "fnTreesAgree", unfollowed := true, recurses := true, apart := false }
def FnTreesAgreeSaid : Prop := fnTreesAgreeRow.holds Try.pinned (OpenSpec.ofChange fnTreesAgreeSpec)

/-- ITS FALSE NEIGHBOUR: 'it returns false'. Refute it at one input. -/
def fnTreesAgreeWrong : ChangeSpec := { name := "fnTreesAgree", fn := fun _ => fun
  | [d1, d2] => { results := [.lit (.bool false)], args := [d1, d2] }
  | _ => none }
def FnTreesAgreeWrongFalsely : Prop := fnTreesAgreeRow.holds Try.pinned (OpenSpec.ofChange fnTreesAgreeWrong)

/-- 'laws.FnTreesBegin': WHATEVER THE INPUT: true; the input reads as it did. -/
def fnTreesBeginSpec : ChangeSpec := { name := "fnTreesBegin", fn := fun _ => fun
  | [d1, d2, d3] => { results := [.lit (.bool true)], args := [d1, d2, d3] }
  | _ => none }
def fnTreesBeginRow : OpenClaim := { program := "ytjlcebgfknfelaa", sum := "19e5d69f1db07f4c97580e4b4d1dab2d09ecd6242fff091dcdff49c5522e8fd5", func := "pub-copsewood/laws.FnTreesBegin", spec := "fnTreesBegin", unfollowed := true, recurses := true, apart := false }
def FnTreesBeginSaid : Prop := fnTreesBeginRow.holds Try.pinned (OpenSpec.ofChange fnTreesBeginSpec)

/-- ITS FALSE NEIGHBOUR: 'it returns false'. Refute it at one input. -/
def fnTreesBeginWrong : ChangeSpec := { name := "fnTreesBegin", fn := fun _ => fun
  | [d1, d2, d3] => { results := [.lit (.bool false)], args := [d1, d2, d3] }
  | _ => none }
def FnTreesBeginWrongFalsely : Prop := fnTreesBeginRow.holds Try.pinned (OpenSpec.ofChange fnTreesBeginWrong)

/-- 'laws.FnTreesTurn': WHATEVER THE INPUT: true; the input reads as it did. -/
def fnTreesTurnSpec : ChangeSpec := { name := "fnTreesTurn", fn := fun _ => fun
  | [d1, d2] => { results := [.lit (.bool true)], args := [d1, d2] }
  | _ => none }
def fnTreesTurnRow : OpenClaim := { program := "ytjlcebgfknfelaa", sum := "19e5d69f1db07f4c97580e4b4d1dab2d09ecd6242fff091dcdff49c5522e8fd5", func := "pub-copsewood/laws.FnTreesTurn", spec := "fnTreesTurn", unfollowed := true, recurses := true, apart := false }
def FnTreesTurnSaid : Prop := fnTreesTurnRow.holds Try.pinned (OpenSpec.ofChange fnTreesTurnSpec)

/-- ITS FALSE NEIGHBOUR: 'it returns false'. Refute it at one input. -/
def fnTreesTurnWrong : ChangeSpec := { name := "fnTreesTurn", fn := fun _ => fun
  | [d1, d2] => { results := [.lit (.bool false)], args := [d1, d2] }
  | _ => none }
def FnTreesTurnWrongFalsely : Prop := fnTreesTurnRow.holds Try.pinned (OpenSpec.ofChange fnTreesTurnWrong)

/-- 'laws.FnTreesUndo': WHATEVER THE INPUT: true; the input reads as it did. -/
def fnTreesUndoSpec : ChangeSpec := { name := "fnTreesUndo", fn := fun _ => fun
  | [d1, d2, d3, d4] => { results := [.lit (.bool true)], args := [d1, d2, d3, d4] }
  | _ => none }
def fnTreesUndoRow : OpenClaim := { program := "ytjlcebgfknfelaa", sum := "19e5d69f1db07f4c97580e4b4d1dab2d09ecd6242fff091dcdff49c5522e8fd5", func := "pub-copsewood/laws.FnTreesUndo", spec := "fnTreesUndo", unfollowed := true, recurses := true, apart := false }
def FnTreesUndoSaid : Prop := fnTreesUndoRow.holds Try.pinned (OpenSpec.ofChange fnTreesUndoSpec)

/-- ITS FALSE NEIGHBOUR: 'it returns false'. Refute it at one input. -/
def fnTreesUndoWrong : ChangeSpec := { name := "fnTreesUndo", fn := fun _ => fun
  | [d1, d2, d3, d4] => { results := [.lit (.bool false)], args := [d1, d2, d3, d4] }
  | _ => none }
def FnTreesUndoWrongFalsely : Prop := fnTreesUndoRow.holds Try.pinned (OpenSpec.ofChange fnTreesUndoWrong)

/- THE SECOND FORM. 'bulk': how many values and letters a reading holds, each counted each time it is reached (what is shared counts as often as it is met; a slice's spare places count too). A statement '..UptoSaid' is the law's where the arguments, and the package variables that the reading takes, are together of bulk at most 1048576: NARROWER than '..Said'. Prove '..Said' where nothing that the law and all that it calls make is longer than what came in: it says more and counts as full. Else prove '..UptoSaid'. A law counts once. -/
mutual
def uptoBulk {H : Type} : DataW H → Nat
  | .lit (.string bytes) => bytes.length + 1
  | .lit _ => 1
  | .nil => 1
  | .ptr d => uptoBulk d + 1
  | .slice elems spare => uptoBulkAll elems + uptoBulkAll spare + 1
  | .agg parts => uptoBulkAll parts + 1
  | .iface _ d => uptoBulk d + 1
  | .map entries => uptoBulkEntries entries + 1
  | .held _ => 1
def uptoBulkAll {H : Type} : List (DataW H) → Nat
  | [] => 0
  | d :: r => uptoBulk d + uptoBulkAll r
def uptoBulkEntries {H : Type} : List (Lit × DataW H) → Nat
  | [] => 0
  | x :: r => uptoBulkEntry x + uptoBulkEntries r
def uptoBulkEntry {H : Type} : Lit × DataW H → Nat
  | (.string bytes, d) => bytes.length + uptoBulk d + 1
  | (_, d) => uptoBulk d + 1
 end
def uptoSmall : (H : Type) → List (DataW H) → Bool := fun _ ds => decide (uptoBulkAll ds ≤ 1048576)
def OpenSpec.upto (s : _root_.Go.ChangeSpec) : _root_.Go.OpenSpec := { _root_.Go.OpenSpec.ofChange s with cond := some uptoSmall }

/-- 'laws.FnAvlTurnKeeps', WHERE WHAT IT READS IS OF BULK AT MOST 1048576: true; the input reads as it did. -/
def fnAvlTurnKeepsUptoRow : OpenClaim := { program := "ytjlcebgfknfelaa", sum := "19e5d69f1db07f4c97580e4b4d1dab2d09ecd6242fff091dcdff49c5522e8fd5", func := "pub-copsewood/laws.FnAvlTurnKeeps", spec := "fnAvlTurnKeeps", recurses := true, apart := false, narrowed := true }
def FnAvlTurnKeepsUptoSaid : Prop := fnAvlTurnKeepsUptoRow.holds Try.pinned (OpenSpec.upto fnAvlTurnKeepsSpec)

/-- 'laws.FnAvlRebalances', WHERE WHAT IT READS IS OF BULK AT MOST 1048576: true; the input reads as it did. -/
def fnAvlRebalancesUptoRow : OpenClaim := { program := "ytjlcebgfknfelaa", sum := "19e5d69f1db07f4c97580e4b4d1dab2d09ecd6242fff091dcdff49c5522e8fd5", func := "pub-copsewood/laws.FnAvlRebalances", spec := "fnAvlRebalances", recurses := true, apart := false, narrowed := true }
def FnAvlRebalancesUptoSaid : Prop := fnAvlRebalancesUptoRow.holds Try.pinned (OpenSpec.upto fnAvlRebalancesSpec)

/-- 'laws.FnAvlFirst', WHERE WHAT IT READS IS OF BULK AT MOST 1048576: true; the input reads as it did. -/
def fnAvlFirstUptoRow : OpenClaim := { program := "ytjlcebgfknfelaa", sum := "19e5d69f1db07f4c97580e4b4d1dab2d09ecd6242fff091dcdff49c5522e8fd5", func := "pub-copsewood/laws.FnAvlFirst", spec := "fnAvlFirst", unfollowed := true, recurses := true, apart := false, narrowed := true }
def FnAvlFirstUptoSaid : Prop := fnAvlFirstUptoRow.holds Try.pinned (OpenSpec.upto fnAvlFirstSpec)

/-- 'laws.FnAvlHeight', WHERE WHAT IT READS IS OF BULK AT MOST 1048576: true; the input reads as it did. -/
def fnAvlHeightUptoRow : OpenClaim := { program := "ytjlcebgfknfelaa", sum := "19e5d69f1db07f4c97580e4b4d1dab2d09ecd6242fff091dcdff49c5522e8fd5", func := "pub-copsewood/laws.FnAvlHeight", spec := "fnAvlHeight", unfollowed := true, recurses := true, apart := false, narrowed := true }
def FnAvlHeightUptoSaid : Prop := fnAvlHeightUptoRow.holds Try.pinned (OpenSpec.upto fnAvlHeightSpec)

/-- 'laws.FnAvlRuns', WHERE WHAT IT READS IS OF BULK AT MOST 1048576: true; the input reads as it did. -/
def fnAvlRunsUptoRow : OpenClaim := { program := "ytjlcebgfknfelaa", sum := "19e5d69f1db07f4c97580e4b4d1dab2d09ecd6242fff091dcdff49c5522e8fd5", func := "pub-copsewood/laws.FnAvlRuns", spec := "fnAvlRuns", unfollowed := true, recurses := true, apart := false, narrowed := true }
def FnAvlRunsUptoSaid : Prop := fnAvlRunsUptoRow.holds Try.pinned (OpenSpec.upto fnAvlRunsSpec)

/-- 'laws.FnAvlOnRuns', WHERE WHAT IT READS IS OF BULK AT MOST 1048576: true; the input reads as it did. -/
def fnAvlOnRunsUptoRow : OpenClaim := { program := "ytjlcebgfknfelaa", sum := "19e5d69f1db07f4c97580e4b4d1dab2d09ecd6242fff091dcdff49c5522e8fd5", func := "pub-copsewood/laws.FnAvlOnRuns", spec := "fnAvlOnRuns", unfollowed := true, recurses := true, apart := false, narrowed := true }
def FnAvlOnRunsUptoSaid : Prop := fnAvlOnRunsUptoRow.holds Try.pinned (OpenSpec.upto fnAvlOnRunsSpec)

/-- 'laws.FnTreesAgree', WHERE WHAT IT READS IS OF BULK AT MOST 1048576: true; the input reads as it did. -/
def fnTreesAgreeUptoRow : OpenClaim := { program := "ytjlcebgfknfelaa", sum := "19e5d69f1db07f4c97580e4b4d1dab2d09ecd6242fff091dcdff49c5522e8fd5", func := "pub-copsewood/laws.FnTreesAgree", spec := "fnTreesAgree", unfollowed := true, recurses := true, apart := false, narrowed := true }
def FnTreesAgreeUptoSaid : Prop := fnTreesAgreeUptoRow.holds Try.pinned (OpenSpec.upto fnTreesAgreeSpec)

/-- 'laws.FnTreesBegin', WHERE WHAT IT READS IS OF BULK AT MOST 1048576: true; the input reads as it did. -/
def fnTreesBeginUptoRow : OpenClaim := { program := "ytjlcebgfknfelaa", sum := "19e5d69f1db07f4c97580e4b4d1dab2d09ecd6242fff091dcdff49c5522e8fd5", func := "pub-copsewood/laws.FnTreesBegin", spec := "fnTreesBegin", unfollowed := true, recurses := true, apart := false, narrowed := true }
def FnTreesBeginUptoSaid : Prop := fnTreesBeginUptoRow.holds Try.pinned (OpenSpec.upto fnTreesBeginSpec)

/-- 'laws.FnTreesTurn', WHERE WHAT IT READS IS OF BULK AT MOST 1048576: true; the input reads as it did. -/
def fnTreesTurnUptoRow : OpenClaim := { program := "ytjlcebgfknfelaa", sum := "19e5d69f1db07f4c97580e4b4d1dab2d09ecd6242fff091dcdff49c5522e8fd5", func := "pub-copsewood/laws.FnTreesTurn", spec := "fnTreesTurn", unfollowed := true, recurses := true, apart := false, narrowed := true }
def FnTreesTurnUptoSaid : Prop := fnTreesTurnUptoRow.holds Try.pinned (OpenSpec.upto fnTreesTurnSpec)

/-- 'laws.FnTreesUndo', WHERE WHAT IT READS IS OF BULK AT MOST 1048576: true; the input reads as it did. -/
def fnTreesUndoUptoRow : OpenClaim := { program := "ytjlcebgfknfelaa", sum := "19e5d69f1db07f4c97580e4b4d1dab2d09ecd6242fff091dcdff49c5522e8fd5", func := "pub-copsewood/laws.FnTreesUndo", spec := "fnTreesUndo", unfollowed := true, recurses := true, apart := false, narrowed := true }
def FnTreesUndoUptoSaid : Prop := fnTreesUndoUptoRow.holds Try.pinned (OpenSpec.upto fnTreesUndoSpec)

end Rows
end Go.Proofs.Ytjlcebgfknfelaa
