/-
  No cell of these rows narrows 'for every input' (looked for: loops, veiled, ifaces, maps, wideKeys, modest, calm, conditions, laid).
  DERIVED. THE GIVEN ROWS OF THIS SEAT. 5 by the template 'for every input the law returns true; each argument reads behind the call as it read before'; 0 by the template 'total and deterministic' (their statements: YtdlnpmbnedmmnaaTotals.lean).
  GIVEN WITH THE SEED: the statements are not yours to turn. If you find one false, say at which input.
  Laid BY PROGRAM, IN A SANDBOX (cutbox-rows.mjs): the forced cells as the released guide's own fill.sh prints them over the translation 6e4060f9b9164661… (all of the seat's roots in one cut). By AI agents, Wed Nov 11 2026. No macro, syntax, notation, axiom, sorry.
-/
import Derived.Test.YtdlnpmbnedmmnaaChecked
import GoSem.Claim
import GoSem.ClaimJoined
import GoSem.ClaimMapViews
import Derived.JoinedTies
import Derived.KernelRfl
namespace Go.Proofs.Ytdlnpmbnedmmnaa
/- THE CELL 'sum', in the pinned program and in every row, IS THE sha256 OF THE DUMP (.gsa) THAT YtdlnpmbnedmmnaaProg.lean LOADS. Nothing in Lean hashes anything: it is a label: what it is worth is what the hold of that sum in a sandbox is worth. -/
noncomputable def Try.pinned : Pinned := { name := "ytdlnpmbnedmmnaa", sum := "6e4060f9b9164661e7124c1e9fe98c51678b51b2ef9e90fbb64a2ffd4ec69b76", checked := Try.checked }
namespace Rows
def none {H : Type} : Left H := { results := [], args := [] }

/-- 'laws.FnRopeJoins': WHATEVER THE INPUT: true; the input reads as it did. -/
def fnRopeJoinsSpec : ChangeSpec := { name := "fnRopeJoins", fn := fun _ => fun
  | [d] => { results := [.lit (.bool true)], args := [d] }
  | _ => none }
def fnRopeJoinsRow : OpenClaim := { program := "ytdlnpmbnedmmnaa", sum := "6e4060f9b9164661e7124c1e9fe98c51678b51b2ef9e90fbb64a2ffd4ec69b76", func := "pub-copsewood/laws.FnRopeJoins", spec := "fnRopeJoins", recurses := true, apart := false }
def FnRopeJoinsSaid : Prop := fnRopeJoinsRow.holds Try.pinned (OpenSpec.ofChange fnRopeJoinsSpec)

/-- ITS FALSE NEIGHBOUR: 'it returns false'. Refute it at one input. -/
def fnRopeJoinsWrong : ChangeSpec := { name := "fnRopeJoins", fn := fun _ => fun
  | [d] => { results := [.lit (.bool false)], args := [d] }
  | _ => none }
def FnRopeJoinsWrongFalsely : Prop := fnRopeJoinsRow.holds Try.pinned (OpenSpec.ofChange fnRopeJoinsWrong)

/-- 'laws.FnRopeInsertJoins': WHATEVER THE INPUT: true; the input reads as it did. -/
def fnRopeInsertJoinsSpec : ChangeSpec := { name := "fnRopeInsertJoins", fn := fun _ => fun
  | [d1, d2, d3, d4] => { results := [.lit (.bool true)], args := [d1, d2, d3, d4] }
  | _ => none }
def fnRopeInsertJoinsRow : OpenClaim := { program := "ytdlnpmbnedmmnaa", sum := "6e4060f9b9164661e7124c1e9fe98c51678b51b2ef9e90fbb64a2ffd4ec69b76", func := "pub-copsewood/laws.FnRopeInsertJoins", spec := "fnRopeInsertJoins", unfollowed := true, recurses := true, apart := false }
def FnRopeInsertJoinsSaid : Prop := fnRopeInsertJoinsRow.holds Try.pinned (OpenSpec.ofChange fnRopeInsertJoinsSpec)

/-- ITS FALSE NEIGHBOUR: 'it returns false'. Refute it at one input. -/
def fnRopeInsertJoinsWrong : ChangeSpec := { name := "fnRopeInsertJoins", fn := fun _ => fun
  | [d1, d2, d3, d4] => { results := [.lit (.bool false)], args := [d1, d2, d3, d4] }
  | _ => none }
def FnRopeInsertJoinsWrongFalsely : Prop := fnRopeInsertJoinsRow.holds Try.pinned (OpenSpec.ofChange fnRopeInsertJoinsWrong)

/-- 'laws.FnRopeRuns': WHATEVER THE INPUT: true; the input reads as it did. -/
def fnRopeRunsSpec : ChangeSpec := { name := "fnRopeRuns", fn := fun _ => fun
  | [d1, d2] => { results := [.lit (.bool true)], args := [d1, d2] }
  | _ => none }
def fnRopeRunsRow : OpenClaim := { program := "ytdlnpmbnedmmnaa", sum := "6e4060f9b9164661e7124c1e9fe98c51678b51b2ef9e90fbb64a2ffd4ec69b76", func := "pub-copsewood/laws.FnRopeRuns", spec := "fnRopeRuns", unfollowed := true, recurses := true, apart := false }
def FnRopeRunsSaid : Prop := fnRopeRunsRow.holds Try.pinned (OpenSpec.ofChange fnRopeRunsSpec)

/-- ITS FALSE NEIGHBOUR: 'it returns false'. Refute it at one input. -/
def fnRopeRunsWrong : ChangeSpec := { name := "fnRopeRuns", fn := fun _ => fun
  | [d1, d2] => { results := [.lit (.bool false)], args := [d1, d2] }
  | _ => none }
def FnRopeRunsWrongFalsely : Prop := fnRopeRunsRow.holds Try.pinned (OpenSpec.ofChange fnRopeRunsWrong)

/-- 'laws.FnRopeUndo': WHATEVER THE INPUT: true; the input reads as it did. -/
def fnRopeUndoSpec : ChangeSpec := { name := "fnRopeUndo", fn := fun _ => fun
  | [d1, d2, d3, d4] => { results := [.lit (.bool true)], args := [d1, d2, d3, d4] }
  | _ => none }
def fnRopeUndoRow : OpenClaim := { program := "ytdlnpmbnedmmnaa", sum := "6e4060f9b9164661e7124c1e9fe98c51678b51b2ef9e90fbb64a2ffd4ec69b76", func := "pub-copsewood/laws.FnRopeUndo", spec := "fnRopeUndo", unfollowed := true, recurses := true, apart := false }
def FnRopeUndoSaid : Prop := fnRopeUndoRow.holds Try.pinned (OpenSpec.ofChange fnRopeUndoSpec)

/-- ITS FALSE NEIGHBOUR: 'it returns false'. Refute it at one input. -/
def fnRopeUndoWrong : ChangeSpec := { name := "fnRopeUndo", fn := fun _ => fun
  | [d1, d2, d3, d4] => { results := [.lit (.bool false)], args := [d1, d2, d3, d4] }
  | _ => none }
def FnRopeUndoWrongFalsely : Prop := fnRopeUndoRow.holds Try.pinned (OpenSpec.ofChange fnRopeUndoWrong)

/-- 'laws.FnRopeLeaves': WHATEVER THE INPUT: true; the input reads as it did. -/
def fnRopeLeavesSpec : ChangeSpec := { name := "fnRopeLeaves", fn := fun _ => fun
  | [d1, d2] => { results := [.lit (.bool true)], args := [d1, d2] }
  | _ => none }
def fnRopeLeavesRow : OpenClaim := { program := "ytdlnpmbnedmmnaa", sum := "6e4060f9b9164661e7124c1e9fe98c51678b51b2ef9e90fbb64a2ffd4ec69b76", func := "pub-copsewood/laws.FnRopeLeaves", spec := "fnRopeLeaves", unfollowed := true, recurses := true, apart := false }
def FnRopeLeavesSaid : Prop := fnRopeLeavesRow.holds Try.pinned (OpenSpec.ofChange fnRopeLeavesSpec)

/-- ITS FALSE NEIGHBOUR: 'it returns false'. Refute it at one input. -/
def fnRopeLeavesWrong : ChangeSpec := { name := "fnRopeLeaves", fn := fun _ => fun
  | [d1, d2] => { results := [.lit (.bool false)], args := [d1, d2] }
  | _ => none }
def FnRopeLeavesWrongFalsely : Prop := fnRopeLeavesRow.holds Try.pinned (OpenSpec.ofChange fnRopeLeavesWrong)

/- THE SECOND FORM. 'bulk': how many values and letters a reading holds, each counted each time it is reached (what is shared counts as often as it is met; a slice's spare places count too). A statement '..UptoSaid' is the law's where the arguments, and the package variables that the reading takes, are together of bulk at most 1048576: NARROWER than '..Said'. Prove '..Said' where nothing that the law and all that it calls make is longer than what came in: it says more and counts as full. Else prove '..UptoSaid'. A law counts once. -/
mutual
def uptoBulk {H : Type} : DataW H → Nat
  | .lit (.string bytes) => bytes.length + 1
  | .lit _ => 1
  | .nil => 1
  | .ptr d => uptoBulk d + 1
  | .slice elems spare => uptoBulkAll elems + uptoBulkAll spare + 1
  | .agg parts => uptoBulkAll parts + 1
  | .iface _ d => uptoBulk d + 1
  | .map entries => uptoBulkEntries entries + 1
  | .held _ => 1
def uptoBulkAll {H : Type} : List (DataW H) → Nat
  | [] => 0
  | d :: r => uptoBulk d + uptoBulkAll r
def uptoBulkEntries {H : Type} : List (Lit × DataW H) → Nat
  | [] => 0
  | x :: r => uptoBulkEntry x + uptoBulkEntries r
def uptoBulkEntry {H : Type} : Lit × DataW H → Nat
  | (.string bytes, d) => bytes.length + uptoBulk d + 1
  | (_, d) => uptoBulk d + 1
 end
def uptoSmall : (H : Type) → List (DataW H) → Bool := fun _ ds => decide (uptoBulkAll ds ≤ 1048576)
def OpenSpec.upto (s : _root_.Go.ChangeSpec) : _root_.Go.OpenSpec := { _root_.Go.OpenSpec.ofChange s with cond := some uptoSmall }

/-- 'laws.FnRopeJoins', WHERE WHAT IT READS IS OF BULK AT MOST 1048576: true; the input reads as it did. -/
def fnRopeJoinsUptoRow : OpenClaim := { program := "ytdlnpmbnedmmnaa", sum := "6e4060f9b9164661e7124c1e9fe98c51678b51b2ef9e90fbb64a2ffd4ec69b76", func := "pub-copsewood/laws.FnRopeJoins", spec := "fnRopeJoins", recurses := true, apart := false, narrowed := true }
def FnRopeJoinsUptoSaid : Prop := fnRopeJoinsUptoRow.holds Try.pinned (OpenSpec.upto fnRopeJoinsSpec)

/-- 'laws.FnRopeInsertJoins', WHERE WHAT IT READS IS OF BULK AT MOST 1048576: true; the input reads as it did. -/
def fnRopeInsertJoinsUptoRow : OpenClaim := { program := "ytdlnpmbnedmmnaa", sum := "6e4060f9b9164661e7124c1e9fe98c51678b51b2ef9e90fbb64a2ffd4ec69b76", func := "pub-copsewood/laws.FnRopeInsertJoins", spec := "fnRopeInsertJoins", unfollowed := true, recurses := true, apart := false, narrowed := true }
def FnRopeInsertJoinsUptoSaid : Prop := fnRopeInsertJoinsUptoRow.holds Try.pinned (OpenSpec.upto fnRopeInsertJoinsSpec)

/-- 'laws.FnRopeRuns', WHERE WHAT IT READS IS OF BULK AT MOST 1048576: true; the input reads as it did. -/
def fnRopeRunsUptoRow : OpenClaim := { program := "ytdlnpmbnedmmnaa", sum := "6e4060f9b9164661e7124c1e9fe98c51678b51b2ef9e90fbb64a2ffd4ec69b76", func := "pub-copsewood/laws.FnRopeRuns", spec := "fnRopeRuns", unfollowed := true, recurses := true, apart := false, narrowed := true }
def FnRopeRunsUptoSaid : Prop := fnRopeRunsUptoRow.holds Try.pinned (OpenSpec.upto fnRopeRunsSpec)

/-- 'laws.FnRopeUndo', WHERE WHAT IT READS IS OF BULK AT MOST 1048576: true; the input reads as it did. -/
def fnRopeUndoUptoRow : OpenClaim := { program := "ytdlnpmbnedmmnaa", sum := "6e4060f9b9164661e7124c1e9fe98c51678b51b2ef9e90fbb64a2ffd4ec69b76", func := "pub-copsewood/laws.FnRopeUndo", spec := "fnRopeUndo", unfollowed := true, recurses := true, apart := false, narrowed := true }
def FnRopeUndoUptoSaid : Prop := fnRopeUndoUptoRow.holds Try.pinned (OpenSpec.upto fnRopeUndoSpec)

/-- 'laws.FnRopeLeaves', WHERE WHAT IT READS IS OF BULK AT MOST 1048576: true; the input reads as it did. -/
def fnRopeLeavesUptoRow : OpenClaim := { program := "ytdlnpmbnedmmnaa", sum := "6e4060f9b9164661e7124c1e9fe98c51678b51b2ef9e90fbb64a2ffd4ec69b76", func := "pub-copsewood/laws.FnRopeLeaves", spec := "fnRopeLeaves", unfollowed := true, recurses := true, apart := false, narrowed := true }
def FnRopeLeavesUptoSaid : Prop := fnRopeLeavesUptoRow.holds Try.pinned (OpenSpec.upto fnRopeLeavesSpec)

end Rows
end Go.Proofs.Ytdlnpmbnedmmnaa
