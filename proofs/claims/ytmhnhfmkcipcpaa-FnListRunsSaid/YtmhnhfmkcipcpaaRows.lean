/-
  No cell of these rows narrows 'for every input' (looked for: loops, veiled, ifaces, maps, wideKeys, modest, calm, conditions, laid).
  DERIVED. THE GIVEN ROWS OF THIS SEAT. 8 by the template 'for every input the law returns true; each argument reads behind the call as it read before'; 0 by the template 'total and deterministic' (their statements: YtmhnhfmkcipcpaaTotals.lean).
  GIVEN WITH THE SEED: the statements are not yours to turn. If you find one false, say at which input.
  Laid BY PROGRAM, IN A SANDBOX (cutbox-rows.mjs): the forced cells as the released guide's own fill.sh prints them over the translation be13d44e1f5fa134… (all of the seat's roots in one cut). By AI agents, Wed Nov 11 2026. No macro, syntax, notation, axiom, sorry.
-/
import Derived.Test.YtmhnhfmkcipcpaaChecked
import GoSem.Claim
import GoSem.ClaimJoined
import GoSem.ClaimMapViews
import Derived.JoinedTies
import Derived.KernelRfl
namespace Go.Proofs.Ytmhnhfmkcipcpaa
/- THE CELL 'sum', in the pinned program and in every row, IS THE sha256 OF THE DUMP (.gsa) THAT YtmhnhfmkcipcpaaProg.lean LOADS. Nothing in Lean hashes anything: it is a label: what it is worth is what the hold of that sum in a sandbox is worth. -/
noncomputable def Try.pinned : Pinned := { name := "ytmhnhfmkcipcpaa", sum := "be13d44e1f5fa1341748a9015e261a3c1fb99614eb1b8fcdcb1ac01f28676542", checked := Try.checked }
namespace Rows
def none {H : Type} : Left H := { results := [], args := [] }

/-- 'laws.FnStackRuns': WHATEVER THE INPUT: true; the input reads as it did. -/
def fnStackRunsSpec : ChangeSpec := { name := "fnStackRuns", fn := fun _ => fun
  | [d] => { results := [.lit (.bool true)], args := [d] }
  | _ => none }
def fnStackRunsRow : OpenClaim := { program := "ytmhnhfmkcipcpaa", sum := "be13d44e1f5fa1341748a9015e261a3c1fb99614eb1b8fcdcb1ac01f28676542", func := "pub-copsewood/laws.FnStackRuns", spec := "fnStackRuns", apart := false }
def FnStackRunsSaid : Prop := fnStackRunsRow.holds Try.pinned (OpenSpec.ofChange fnStackRunsSpec)

/-- ITS FALSE NEIGHBOUR: 'it returns false'. Refute it at one input. -/
def fnStackRunsWrong : ChangeSpec := { name := "fnStackRuns", fn := fun _ => fun
  | [d] => { results := [.lit (.bool false)], args := [d] }
  | _ => none }
def FnStackRunsWrongFalsely : Prop := fnStackRunsRow.holds Try.pinned (OpenSpec.ofChange fnStackRunsWrong)

/-- 'laws.FnListRuns': WHATEVER THE INPUT: true; the input reads as it did. -/
def fnListRunsSpec : ChangeSpec := { name := "fnListRuns", fn := fun _ => fun
  | [d] => { results := [.lit (.bool true)], args := [d] }
  | _ => none }
def fnListRunsRow : OpenClaim := { program := "ytmhnhfmkcipcpaa", sum := "be13d44e1f5fa1341748a9015e261a3c1fb99614eb1b8fcdcb1ac01f28676542", func := "pub-copsewood/laws.FnListRuns", spec := "fnListRuns", unfollowed := true, recurses := true, apart := false }
def FnListRunsSaid : Prop := fnListRunsRow.holds Try.pinned (OpenSpec.ofChange fnListRunsSpec)

/-- ITS FALSE NEIGHBOUR: 'it returns false'. Refute it at one input. -/
def fnListRunsWrong : ChangeSpec := { name := "fnListRuns", fn := fun _ => fun
  | [d] => { results := [.lit (.bool false)], args := [d] }
  | _ => none }
def FnListRunsWrongFalsely : Prop := fnListRunsRow.holds Try.pinned (OpenSpec.ofChange fnListRunsWrong)

/-- 'laws.FnHeapSorts': WHATEVER THE INPUT: true; the input reads as it did. -/
def fnHeapSortsSpec : ChangeSpec := { name := "fnHeapSorts", fn := fun _ => fun
  | [d1, d2, d3] => { results := [.lit (.bool true)], args := [d1, d2, d3] }
  | _ => none }
def fnHeapSortsRow : OpenClaim := { program := "ytmhnhfmkcipcpaa", sum := "be13d44e1f5fa1341748a9015e261a3c1fb99614eb1b8fcdcb1ac01f28676542", func := "pub-copsewood/laws.FnHeapSorts", spec := "fnHeapSorts", unfollowed := true, recurses := true, apart := false }
def FnHeapSortsSaid : Prop := fnHeapSortsRow.holds Try.pinned (OpenSpec.ofChange fnHeapSortsSpec)

/-- ITS FALSE NEIGHBOUR: 'it returns false'. Refute it at one input. -/
def fnHeapSortsWrong : ChangeSpec := { name := "fnHeapSorts", fn := fun _ => fun
  | [d1, d2, d3] => { results := [.lit (.bool false)], args := [d1, d2, d3] }
  | _ => none }
def FnHeapSortsWrongFalsely : Prop := fnHeapSortsRow.holds Try.pinned (OpenSpec.ofChange fnHeapSortsWrong)

/-- 'laws.FnHeapUp': WHATEVER THE INPUT: true; the input reads as it did. -/
def fnHeapUpSpec : ChangeSpec := { name := "fnHeapUp", fn := fun _ => fun
  | [d1, d2, d3, d4] => { results := [.lit (.bool true)], args := [d1, d2, d3, d4] }
  | _ => none }
def fnHeapUpRow : OpenClaim := { program := "ytmhnhfmkcipcpaa", sum := "be13d44e1f5fa1341748a9015e261a3c1fb99614eb1b8fcdcb1ac01f28676542", func := "pub-copsewood/laws.FnHeapUp", spec := "fnHeapUp", unfollowed := true, recurses := true, apart := false }
def FnHeapUpSaid : Prop := fnHeapUpRow.holds Try.pinned (OpenSpec.ofChange fnHeapUpSpec)

/-- ITS FALSE NEIGHBOUR: 'it returns false'. Refute it at one input. -/
def fnHeapUpWrong : ChangeSpec := { name := "fnHeapUp", fn := fun _ => fun
  | [d1, d2, d3, d4] => { results := [.lit (.bool false)], args := [d1, d2, d3, d4] }
  | _ => none }
def FnHeapUpWrongFalsely : Prop := fnHeapUpRow.holds Try.pinned (OpenSpec.ofChange fnHeapUpWrong)

/-- 'laws.FnHeapTree': WHATEVER THE INPUT: true; the input reads as it did. -/
def fnHeapTreeSpec : ChangeSpec := { name := "fnHeapTree", fn := fun _ => fun
  | [d1, d2, d3, d4] => { results := [.lit (.bool true)], args := [d1, d2, d3, d4] }
  | _ => none }
def fnHeapTreeRow : OpenClaim := { program := "ytmhnhfmkcipcpaa", sum := "be13d44e1f5fa1341748a9015e261a3c1fb99614eb1b8fcdcb1ac01f28676542", func := "pub-copsewood/laws.FnHeapTree", spec := "fnHeapTree", unfollowed := true, recurses := true, apart := false }
def FnHeapTreeSaid : Prop := fnHeapTreeRow.holds Try.pinned (OpenSpec.ofChange fnHeapTreeSpec)

/-- ITS FALSE NEIGHBOUR: 'it returns false'. Refute it at one input. -/
def fnHeapTreeWrong : ChangeSpec := { name := "fnHeapTree", fn := fun _ => fun
  | [d1, d2, d3, d4] => { results := [.lit (.bool false)], args := [d1, d2, d3, d4] }
  | _ => none }
def FnHeapTreeWrongFalsely : Prop := fnHeapTreeRow.holds Try.pinned (OpenSpec.ofChange fnHeapTreeWrong)

/-- 'laws.FnCacheKeeps': WHATEVER THE INPUT: true; the input reads as it did. -/
def fnCacheKeepsSpec : ChangeSpec := { name := "fnCacheKeeps", fn := fun _ => fun
  | [d1, d2] => { results := [.lit (.bool true)], args := [d1, d2] }
  | _ => none }
def fnCacheKeepsRow : OpenClaim := { program := "ytmhnhfmkcipcpaa", sum := "be13d44e1f5fa1341748a9015e261a3c1fb99614eb1b8fcdcb1ac01f28676542", func := "pub-copsewood/laws.FnCacheKeeps", spec := "fnCacheKeeps", unfollowed := true, recurses := true, apart := false }
def FnCacheKeepsSaid : Prop := fnCacheKeepsRow.holds Try.pinned (OpenSpec.ofChange fnCacheKeepsSpec)

/-- ITS FALSE NEIGHBOUR: 'it returns false'. Refute it at one input. -/
def fnCacheKeepsWrong : ChangeSpec := { name := "fnCacheKeeps", fn := fun _ => fun
  | [d1, d2] => { results := [.lit (.bool false)], args := [d1, d2] }
  | _ => none }
def FnCacheKeepsWrongFalsely : Prop := fnCacheKeepsRow.holds Try.pinned (OpenSpec.ofChange fnCacheKeepsWrong)

/-- 'laws.FnCacheRuns': WHATEVER THE INPUT: true; the input reads as it did. -/
def fnCacheRunsSpec : ChangeSpec := { name := "fnCacheRuns", fn := fun _ => fun
  | [d1, d2] => { results := [.lit (.bool true)], args := [d1, d2] }
  | _ => none }
def fnCacheRunsRow : OpenClaim := { program := "ytmhnhfmkcipcpaa", sum := "be13d44e1f5fa1341748a9015e261a3c1fb99614eb1b8fcdcb1ac01f28676542", func := "pub-copsewood/laws.FnCacheRuns", spec := "fnCacheRuns", unfollowed := true, recurses := true, apart := false }
def FnCacheRunsSaid : Prop := fnCacheRunsRow.holds Try.pinned (OpenSpec.ofChange fnCacheRunsSpec)

/-- ITS FALSE NEIGHBOUR: 'it returns false'. Refute it at one input. -/
def fnCacheRunsWrong : ChangeSpec := { name := "fnCacheRuns", fn := fun _ => fun
  | [d1, d2] => { results := [.lit (.bool false)], args := [d1, d2] }
  | _ => none }
def FnCacheRunsWrongFalsely : Prop := fnCacheRunsRow.holds Try.pinned (OpenSpec.ofChange fnCacheRunsWrong)

/-- 'laws.FnBimapTurns': WHATEVER THE INPUT: true; the input reads as it did. -/
def fnBimapTurnsSpec : ChangeSpec := { name := "fnBimapTurns", fn := fun _ => fun
  | [d1, d2] => { results := [.lit (.bool true)], args := [d1, d2] }
  | _ => none }
def fnBimapTurnsRow : OpenClaim := { program := "ytmhnhfmkcipcpaa", sum := "be13d44e1f5fa1341748a9015e261a3c1fb99614eb1b8fcdcb1ac01f28676542", func := "pub-copsewood/laws.FnBimapTurns", spec := "fnBimapTurns", unfollowed := true, recurses := true, apart := false }
def FnBimapTurnsSaid : Prop := fnBimapTurnsRow.holds Try.pinned (OpenSpec.ofChange fnBimapTurnsSpec)

/-- ITS FALSE NEIGHBOUR: 'it returns false'. Refute it at one input. -/
def fnBimapTurnsWrong : ChangeSpec := { name := "fnBimapTurns", fn := fun _ => fun
  | [d1, d2] => { results := [.lit (.bool false)], args := [d1, d2] }
  | _ => none }
def FnBimapTurnsWrongFalsely : Prop := fnBimapTurnsRow.holds Try.pinned (OpenSpec.ofChange fnBimapTurnsWrong)

/- THE SECOND FORM. 'bulk': how many values and letters a reading holds, each counted each time it is reached (what is shared counts as often as it is met; a slice's spare places count too). A statement '..UptoSaid' is the law's where the arguments, and the package variables that the reading takes, are together of bulk at most 1048576: NARROWER than '..Said'. Prove '..Said' where nothing that the law and all that it calls make is longer than what came in: it says more and counts as full. Else prove '..UptoSaid'. A law counts once. -/
mutual
def uptoBulk {H : Type} : DataW H → Nat
  | .lit (.string bytes) => bytes.length + 1
  | .lit _ => 1
  | .nil => 1
  | .ptr d => uptoBulk d + 1
  | .slice elems spare => uptoBulkAll elems + uptoBulkAll spare + 1
  | .agg parts => uptoBulkAll parts + 1
  | .iface _ d => uptoBulk d + 1
  | .map entries => uptoBulkEntries entries + 1
  | .held _ => 1
def uptoBulkAll {H : Type} : List (DataW H) → Nat
  | [] => 0
  | d :: r => uptoBulk d + uptoBulkAll r
def uptoBulkEntries {H : Type} : List (Lit × DataW H) → Nat
  | [] => 0
  | x :: r => uptoBulkEntry x + uptoBulkEntries r
def uptoBulkEntry {H : Type} : Lit × DataW H → Nat
  | (.string bytes, d) => bytes.length + uptoBulk d + 1
  | (_, d) => uptoBulk d + 1
 end
def uptoSmall : (H : Type) → List (DataW H) → Bool := fun _ ds => decide (uptoBulkAll ds ≤ 1048576)
def OpenSpec.upto (s : _root_.Go.ChangeSpec) : _root_.Go.OpenSpec := { _root_.Go.OpenSpec.ofChange s with cond := some uptoSmall }

/-- 'laws.FnStackRuns', WHERE WHAT IT READS IS OF BULK AT MOST 1048576: true; the input reads as it did. -/
def fnStackRunsUptoRow : OpenClaim := { program := "ytmhnhfmkcipcpaa", sum := "be13d44e1f5fa1341748a9015e261a3c1fb99614eb1b8fcdcb1ac01f28676542", func := "pub-copsewood/laws.FnStackRuns", spec := "fnStackRuns", apart := false, narrowed := true }
def FnStackRunsUptoSaid : Prop := fnStackRunsUptoRow.holds Try.pinned (OpenSpec.upto fnStackRunsSpec)

/-- 'laws.FnListRuns', WHERE WHAT IT READS IS OF BULK AT MOST 1048576: true; the input reads as it did. -/
def fnListRunsUptoRow : OpenClaim := { program := "ytmhnhfmkcipcpaa", sum := "be13d44e1f5fa1341748a9015e261a3c1fb99614eb1b8fcdcb1ac01f28676542", func := "pub-copsewood/laws.FnListRuns", spec := "fnListRuns", unfollowed := true, recurses := true, apart := false, narrowed := true }
def FnListRunsUptoSaid : Prop := fnListRunsUptoRow.holds Try.pinned (OpenSpec.upto fnListRunsSpec)

/-- 'laws.FnHeapSorts', WHERE WHAT IT READS IS OF BULK AT MOST 1048576: true; the input reads as it did. -/
def fnHeapSortsUptoRow : OpenClaim := { program := "ytmhnhfmkcipcpaa", sum := "be13d44e1f5fa1341748a9015e261a3c1fb99614eb1b8fcdcb1ac01f28676542", func := "pub-copsewood/laws.FnHeapSorts", spec := "fnHeapSorts", unfollowed := true, recurses := true, apart := false, narrowed := true }
def FnHeapSortsUptoSaid : Prop := fnHeapSortsUptoRow.holds Try.pinned (OpenSpec.upto fnHeapSortsSpec)

/-- 'laws.FnHeapUp', WHERE WHAT IT READS IS OF BULK AT MOST 1048576: true; the input reads as it did. -/
def fnHeapUpUptoRow : OpenClaim := { program := "ytmhnhfmkcipcpaa", sum := "be13d44e1f5fa1341748a9015e261a3c1fb99614eb1b8fcdcb1ac01f28676542", func := "pub-copsewood/laws.FnHeapUp", spec := "fnHeapUp", unfollowed := true, recurses := true, apart := false, narrowed := true }
def FnHeapUpUptoSaid : Prop := fnHeapUpUptoRow.holds Try.pinned (OpenSpec.upto fnHeapUpSpec)

/-- 'laws.FnHeapTree', WHERE WHAT IT READS IS OF BULK AT MOST 1048576: true; the input reads as it did. -/
def fnHeapTreeUptoRow : OpenClaim := { program := "ytmhnhfmkcipcpaa", sum := "be13d44e1f5fa1341748a9015e261a3c1fb99614eb1b8fcdcb1ac01f28676542", func := "pub-copsewood/laws.FnHeapTree", spec := "fnHeapTree", unfollowed := true, recurses := true, apart := false, narrowed := true }
def FnHeapTreeUptoSaid : Prop := fnHeapTreeUptoRow.holds Try.pinned (OpenSpec.upto fnHeapTreeSpec)

/-- 'laws.FnCacheKeeps', WHERE WHAT IT READS IS OF BULK AT MOST 1048576: true; the input reads as it did. -/
def fnCacheKeepsUptoRow : OpenClaim := { program := "ytmhnhfmkcipcpaa", sum := "be13d44e1f5fa1341748a9015e261a3c1fb99614eb1b8fcdcb1ac01f28676542", func := "pub-copsewood/laws.FnCacheKeeps", spec := "fnCacheKeeps", unfollowed := true, recurses := true, apart := false, narrowed := true }
def FnCacheKeepsUptoSaid : Prop := fnCacheKeepsUptoRow.holds Try.pinned (OpenSpec.upto fnCacheKeepsSpec)

/-- 'laws.FnCacheRuns', WHERE WHAT IT READS IS OF BULK AT MOST 1048576: true; the input reads as it did. -/
def fnCacheRunsUptoRow : OpenClaim := { program := "ytmhnhfmkcipcpaa", sum := "be13d44e1f5fa1341748a9015e261a3c1fb99614eb1b8fcdcb1ac01f28676542", func := "pub-copsewood/laws.FnCacheRuns", spec := "fnCacheRuns", unfollowed := true, recurses := true, apart := false, narrowed := true }
def FnCacheRunsUptoSaid : Prop := fnCacheRunsUptoRow.holds Try.pinned (OpenSpec.upto fnCacheRunsSpec)

/-- 'laws.FnBimapTurns', WHERE WHAT IT READS IS OF BULK AT MOST 1048576: true; the input reads as it did. -/
def fnBimapTurnsUptoRow : OpenClaim := { program := "ytmhnhfmkcipcpaa", sum := "be13d44e1f5fa1341748a9015e261a3c1fb99614eb1b8fcdcb1ac01f28676542", func := "pub-copsewood/laws.FnBimapTurns", spec := "fnBimapTurns", unfollowed := true, recurses := true, apart := false, narrowed := true }
def FnBimapTurnsUptoSaid : Prop := fnBimapTurnsUptoRow.holds Try.pinned (OpenSpec.upto fnBimapTurnsSpec)

end Rows
end Go.Proofs.Ytmhnhfmkcipcpaa
