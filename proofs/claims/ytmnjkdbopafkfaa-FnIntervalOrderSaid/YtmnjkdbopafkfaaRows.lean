/-
  No cell of these rows narrows 'for every input' (looked for: loops, veiled, ifaces, maps, wideKeys, modest, calm, conditions, laid).
  DERIVED. THE GIVEN ROWS OF THIS SEAT. 7 by the template 'for every input the law returns true; each argument reads behind the call as it read before'; 0 by the template 'total and deterministic' (their statements: YtmnjkdbopafkfaaTotals.lean).
  GIVEN WITH THE SEED: the statements are not yours to turn. If you find one false, say at which input.
  Laid BY PROGRAM, IN A SANDBOX (cutbox-rows.mjs): the forced cells as the released guide's own fill.sh prints them over the translation d58d55fac8e421c9… (all of the seat's roots in one cut). By AI agents, Wed Nov 11 2026. No macro, syntax, notation, axiom, sorry.
-/
import Derived.Test.YtmnjkdbopafkfaaChecked
import GoSem.Claim
import GoSem.ClaimJoined
import GoSem.ClaimMapViews
import Derived.JoinedTies
import Derived.KernelRfl
namespace Go.Proofs.Ytmnjkdbopafkfaa
/- THE CELL 'sum', in the pinned program and in every row, IS THE sha256 OF THE DUMP (.gsa) THAT YtmnjkdbopafkfaaProg.lean LOADS. Nothing in Lean hashes anything: it is a label: what it is worth is what the hold of that sum in a sandbox is worth. -/
noncomputable def Try.pinned : Pinned := { name := "ytmnjkdbopafkfaa", sum := "d58d55fac8e421c93859ba41f76788f29cfd039e2c651baf0db5273566b2edf7", checked := Try.checked }
namespace Rows
def none {H : Type} : Left H := { results := [], args := [] }

/-- 'laws.FnIntervalLow': WHATEVER THE INPUT: true; the input reads as it did. -/
def fnIntervalLowSpec : ChangeSpec := { name := "fnIntervalLow", fn := fun _ => fun
  | [d] => { results := [.lit (.bool true)], args := [d] }
  | _ => none }
def fnIntervalLowRow : OpenClaim := { program := "ytmnjkdbopafkfaa", sum := "d58d55fac8e421c93859ba41f76788f29cfd039e2c651baf0db5273566b2edf7", func := "pub-copsewood/laws.FnIntervalLow", spec := "fnIntervalLow", unfollowed := true, recurses := true, apart := false }
def FnIntervalLowSaid : Prop := fnIntervalLowRow.holds Try.pinned (OpenSpec.ofChange fnIntervalLowSpec)

/-- ITS FALSE NEIGHBOUR: 'it returns false'. Refute it at one input. -/
def fnIntervalLowWrong : ChangeSpec := { name := "fnIntervalLow", fn := fun _ => fun
  | [d] => { results := [.lit (.bool false)], args := [d] }
  | _ => none }
def FnIntervalLowWrongFalsely : Prop := fnIntervalLowRow.holds Try.pinned (OpenSpec.ofChange fnIntervalLowWrong)

/-- 'laws.FnIntervalOrder': WHATEVER THE INPUT: true; the input reads as it did. -/
def fnIntervalOrderSpec : ChangeSpec := { name := "fnIntervalOrder", fn := fun _ => fun
  | [d1, d2, d3, d4] => { results := [.lit (.bool true)], args := [d1, d2, d3, d4] }
  | _ => none }
def fnIntervalOrderRow : OpenClaim := { program := "ytmnjkdbopafkfaa", sum := "d58d55fac8e421c93859ba41f76788f29cfd039e2c651baf0db5273566b2edf7", func := "pub-copsewood/laws.FnIntervalOrder", spec := "fnIntervalOrder", unfollowed := true, recurses := true, apart := false }
def FnIntervalOrderSaid : Prop := fnIntervalOrderRow.holds Try.pinned (OpenSpec.ofChange fnIntervalOrderSpec)

/-- ITS FALSE NEIGHBOUR: 'it returns false'. Refute it at one input. -/
def fnIntervalOrderWrong : ChangeSpec := { name := "fnIntervalOrder", fn := fun _ => fun
  | [d1, d2, d3, d4] => { results := [.lit (.bool false)], args := [d1, d2, d3, d4] }
  | _ => none }
def FnIntervalOrderWrongFalsely : Prop := fnIntervalOrderRow.holds Try.pinned (OpenSpec.ofChange fnIntervalOrderWrong)

/-- 'laws.FnIntervalRuns': WHATEVER THE INPUT: true; the input reads as it did. -/
def fnIntervalRunsSpec : ChangeSpec := { name := "fnIntervalRuns", fn := fun _ => fun
  | [d] => { results := [.lit (.bool true)], args := [d] }
  | _ => none }
def fnIntervalRunsRow : OpenClaim := { program := "ytmnjkdbopafkfaa", sum := "d58d55fac8e421c93859ba41f76788f29cfd039e2c651baf0db5273566b2edf7", func := "pub-copsewood/laws.FnIntervalRuns", spec := "fnIntervalRuns", unfollowed := true, recurses := true, apart := false }
def FnIntervalRunsSaid : Prop := fnIntervalRunsRow.holds Try.pinned (OpenSpec.ofChange fnIntervalRunsSpec)

/-- ITS FALSE NEIGHBOUR: 'it returns false'. Refute it at one input. -/
def fnIntervalRunsWrong : ChangeSpec := { name := "fnIntervalRuns", fn := fun _ => fun
  | [d] => { results := [.lit (.bool false)], args := [d] }
  | _ => none }
def FnIntervalRunsWrongFalsely : Prop := fnIntervalRunsRow.holds Try.pinned (OpenSpec.ofChange fnIntervalRunsWrong)

/-- 'laws.FnIntervalUndo': WHATEVER THE INPUT: true; the input reads as it did. -/
def fnIntervalUndoSpec : ChangeSpec := { name := "fnIntervalUndo", fn := fun _ => fun
  | [d1, d2] => { results := [.lit (.bool true)], args := [d1, d2] }
  | _ => none }
def fnIntervalUndoRow : OpenClaim := { program := "ytmnjkdbopafkfaa", sum := "d58d55fac8e421c93859ba41f76788f29cfd039e2c651baf0db5273566b2edf7", func := "pub-copsewood/laws.FnIntervalUndo", spec := "fnIntervalUndo", unfollowed := true, recurses := true, apart := false }
def FnIntervalUndoSaid : Prop := fnIntervalUndoRow.holds Try.pinned (OpenSpec.ofChange fnIntervalUndoSpec)

/-- ITS FALSE NEIGHBOUR: 'it returns false'. Refute it at one input. -/
def fnIntervalUndoWrong : ChangeSpec := { name := "fnIntervalUndo", fn := fun _ => fun
  | [d1, d2] => { results := [.lit (.bool false)], args := [d1, d2] }
  | _ => none }
def FnIntervalUndoWrongFalsely : Prop := fnIntervalUndoRow.holds Try.pinned (OpenSpec.ofChange fnIntervalUndoWrong)

/-- 'laws.FnOverlapsParts': WHATEVER THE INPUT: true; the input reads as it did. -/
def fnOverlapsPartsSpec : ChangeSpec := { name := "fnOverlapsParts", fn := fun _ => fun
  | [d1, d2, d3, d4] => { results := [.lit (.bool true)], args := [d1, d2, d3, d4] }
  | _ => none }
def fnOverlapsPartsRow : OpenClaim := { program := "ytmnjkdbopafkfaa", sum := "d58d55fac8e421c93859ba41f76788f29cfd039e2c651baf0db5273566b2edf7", func := "pub-copsewood/laws.FnOverlapsParts", spec := "fnOverlapsParts", unfollowed := true, recurses := true, apart := false }
def FnOverlapsPartsSaid : Prop := fnOverlapsPartsRow.holds Try.pinned (OpenSpec.ofChange fnOverlapsPartsSpec)

/-- ITS FALSE NEIGHBOUR: 'it returns false'. Refute it at one input. -/
def fnOverlapsPartsWrong : ChangeSpec := { name := "fnOverlapsParts", fn := fun _ => fun
  | [d1, d2, d3, d4] => { results := [.lit (.bool false)], args := [d1, d2, d3, d4] }
  | _ => none }
def FnOverlapsPartsWrongFalsely : Prop := fnOverlapsPartsRow.holds Try.pinned (OpenSpec.ofChange fnOverlapsPartsWrong)

/-- 'laws.FnIntervalShapes': WHATEVER THE INPUT: true; the input reads as it did. -/
def fnIntervalShapesSpec : ChangeSpec := { name := "fnIntervalShapes", fn := fun _ => fun
  | [d] => { results := [.lit (.bool true)], args := [d] }
  | _ => none }
def fnIntervalShapesRow : OpenClaim := { program := "ytmnjkdbopafkfaa", sum := "d58d55fac8e421c93859ba41f76788f29cfd039e2c651baf0db5273566b2edf7", func := "pub-copsewood/laws.FnIntervalShapes", spec := "fnIntervalShapes", unfollowed := true, recurses := true, apart := false }
def FnIntervalShapesSaid : Prop := fnIntervalShapesRow.holds Try.pinned (OpenSpec.ofChange fnIntervalShapesSpec)

/-- ITS FALSE NEIGHBOUR: 'it returns false'. Refute it at one input. -/
def fnIntervalShapesWrong : ChangeSpec := { name := "fnIntervalShapes", fn := fun _ => fun
  | [d] => { results := [.lit (.bool false)], args := [d] }
  | _ => none }
def FnIntervalShapesWrongFalsely : Prop := fnIntervalShapesRow.holds Try.pinned (OpenSpec.ofChange fnIntervalShapesWrong)

/-- 'laws.FnIntervalGoesOn': WHATEVER THE INPUT: true; the input reads as it did. -/
def fnIntervalGoesOnSpec : ChangeSpec := { name := "fnIntervalGoesOn", fn := fun _ => fun
  | [d1, d2] => { results := [.lit (.bool true)], args := [d1, d2] }
  | _ => none }
def fnIntervalGoesOnRow : OpenClaim := { program := "ytmnjkdbopafkfaa", sum := "d58d55fac8e421c93859ba41f76788f29cfd039e2c651baf0db5273566b2edf7", func := "pub-copsewood/laws.FnIntervalGoesOn", spec := "fnIntervalGoesOn", unfollowed := true, recurses := true, apart := false }
def FnIntervalGoesOnSaid : Prop := fnIntervalGoesOnRow.holds Try.pinned (OpenSpec.ofChange fnIntervalGoesOnSpec)

/-- ITS FALSE NEIGHBOUR: 'it returns false'. Refute it at one input. -/
def fnIntervalGoesOnWrong : ChangeSpec := { name := "fnIntervalGoesOn", fn := fun _ => fun
  | [d1, d2] => { results := [.lit (.bool false)], args := [d1, d2] }
  | _ => none }
def FnIntervalGoesOnWrongFalsely : Prop := fnIntervalGoesOnRow.holds Try.pinned (OpenSpec.ofChange fnIntervalGoesOnWrong)

/- THE SECOND FORM. 'bulk': how many values and letters a reading holds, each counted each time it is reached (what is shared counts as often as it is met; a slice's spare places count too). A statement '..UptoSaid' is the law's where the arguments, and the package variables that the reading takes, are together of bulk at most 1048576: NARROWER than '..Said'. Prove '..Said' where nothing that the law and all that it calls make is longer than what came in: it says more and counts as full. Else prove '..UptoSaid'. A law counts once. -/
mutual
def uptoBulk {H : Type} : DataW H → Nat
  | .lit (.string bytes) => bytes.length + 1
  | .lit _ => 1
  | .nil => 1
  | .ptr d => uptoBulk d + 1
  | .slice elems spare => uptoBulkAll elems + uptoBulkAll spare + 1
  | .agg parts => uptoBulkAll parts + 1
  | .iface _ d => uptoBulk d + 1
  | .map entries => uptoBulkEntries entries + 1
  | .held _ => 1
def uptoBulkAll {H : Type} : List (DataW H) → Nat
  | [] => 0
  | d :: r => uptoBulk d + uptoBulkAll r
def uptoBulkEntries {H : Type} : List (Lit × DataW H) → Nat
  | [] => 0
  | x :: r => uptoBulkEntry x + uptoBulkEntries r
def uptoBulkEntry {H : Type} : Lit × DataW H → Nat
  | (.string bytes, d) => bytes.length + uptoBulk d + 1
  | (_, d) => uptoBulk d + 1
 end
def uptoSmall : (H : Type) → List (DataW H) → Bool := fun _ ds => decide (uptoBulkAll ds ≤ 1048576)
def OpenSpec.upto (s : _root_.Go.ChangeSpec) : _root_.Go.OpenSpec := { _root_.Go.OpenSpec.ofChange s with cond := some uptoSmall }

/-- 'laws.FnIntervalLow', WHERE WHAT IT READS IS OF BULK AT MOST 1048576: true; the input reads as it did. -/
def fnIntervalLowUptoRow : OpenClaim := { program := "ytmnjkdbopafkfaa", sum := "d58d55fac8e421c93859ba41f76788f29cfd039e2c651baf0db5273566b2edf7", func := "pub-copsewood/laws.FnIntervalLow", spec := "fnIntervalLow", unfollowed := true, recurses := true, apart := false, narrowed := true }
def FnIntervalLowUptoSaid : Prop := fnIntervalLowUptoRow.holds Try.pinned (OpenSpec.upto fnIntervalLowSpec)

/-- 'laws.FnIntervalOrder', WHERE WHAT IT READS IS OF BULK AT MOST 1048576: true; the input reads as it did. -/
def fnIntervalOrderUptoRow : OpenClaim := { program := "ytmnjkdbopafkfaa", sum := "d58d55fac8e421c93859ba41f76788f29cfd039e2c651baf0db5273566b2edf7", func := "pub-copsewood/laws.FnIntervalOrder", spec := "fnIntervalOrder", unfollowed := true, recurses := true, apart := false, narrowed := true }
def FnIntervalOrderUptoSaid : Prop := fnIntervalOrderUptoRow.holds Try.pinned (OpenSpec.upto fnIntervalOrderSpec)

/-- 'laws.FnIntervalRuns', WHERE WHAT IT READS IS OF BULK AT MOST 1048576: true; the input reads as it did. -/
def fnIntervalRunsUptoRow : OpenClaim := { program := "ytmnjkdbopafkfaa", sum := "d58d55fac8e421c93859ba41f76788f29cfd039e2c651baf0db5273566b2edf7", func := "pub-copsewood/laws.FnIntervalRuns", spec := "fnIntervalRuns", unfollowed := true, recurses := true, apart := false, narrowed := true }
def FnIntervalRunsUptoSaid : Prop := fnIntervalRunsUptoRow.holds Try.pinned (OpenSpec.upto fnIntervalRunsSpec)

/-- 'laws.FnIntervalUndo', WHERE WHAT IT READS IS OF BULK AT MOST 1048576: true; the input reads as it did. -/
def fnIntervalUndoUptoRow : OpenClaim := { program := "ytmnjkdbopafkfaa", sum := "d58d55fac8e421c93859ba41f76788f29cfd039e2c651baf0db5273566b2edf7", func := "pub-copsewood/laws.FnIntervalUndo", spec := "fnIntervalUndo", unfollowed := true, recurses := true, apart := false, narrowed := true }
def FnIntervalUndoUptoSaid : Prop := fnIntervalUndoUptoRow.holds Try.pinned (OpenSpec.upto fnIntervalUndoSpec)

/-- 'laws.FnOverlapsParts', WHERE WHAT IT READS IS OF BULK AT MOST 1048576: true; the input reads as it did. -/
def fnOverlapsPartsUptoRow : OpenClaim := { program := "ytmnjkdbopafkfaa", sum := "d58d55fac8e421c93859ba41f76788f29cfd039e2c651baf0db5273566b2edf7", func := "pub-copsewood/laws.FnOverlapsParts", spec := "fnOverlapsParts", unfollowed := true, recurses := true, apart := false, narrowed := true }
def FnOverlapsPartsUptoSaid : Prop := fnOverlapsPartsUptoRow.holds Try.pinned (OpenSpec.upto fnOverlapsPartsSpec)

/-- 'laws.FnIntervalShapes', WHERE WHAT IT READS IS OF BULK AT MOST 1048576: true; the input reads as it did. -/
def fnIntervalShapesUptoRow : OpenClaim := { program := "ytmnjkdbopafkfaa", sum := "d58d55fac8e421c93859ba41f76788f29cfd039e2c651baf0db5273566b2edf7", func := "pub-copsewood/laws.FnIntervalShapes", spec := "fnIntervalShapes", unfollowed := true, recurses := true, apart := false, narrowed := true }
def FnIntervalShapesUptoSaid : Prop := fnIntervalShapesUptoRow.holds Try.pinned (OpenSpec.upto fnIntervalShapesSpec)

/-- 'laws.FnIntervalGoesOn', WHERE WHAT IT READS IS OF BULK AT MOST 1048576: true; the input reads as it did. -/
def fnIntervalGoesOnUptoRow : OpenClaim := { program := "ytmnjkdbopafkfaa", sum := "d58d55fac8e421c93859ba41f76788f29cfd039e2c651baf0db5273566b2edf7", func := "pub-copsewood/laws.FnIntervalGoesOn", spec := "fnIntervalGoesOn", unfollowed := true, recurses := true, apart := false, narrowed := true }
def FnIntervalGoesOnUptoSaid : Prop := fnIntervalGoesOnUptoRow.holds Try.pinned (OpenSpec.upto fnIntervalGoesOnSpec)

end Rows
end Go.Proofs.Ytmnjkdbopafkfaa
