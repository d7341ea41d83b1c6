/-
  No cell of these rows narrows 'for every input' (looked for: loops, veiled, ifaces, maps, wideKeys, modest, calm, conditions, laid).
  DERIVED. THE GIVEN ROWS OF THIS SEAT. 6 by the template 'for every input the law returns true; each argument reads behind the call as it read before'; 0 by the template 'total and deterministic' (their statements: YtdhfpgbidlanaaaTotals.lean).
  GIVEN WITH THE SEED: the statements are not yours to turn. If you find one false, say at which input.
  Laid BY PROGRAM, IN A SANDBOX (cutbox-rows.mjs): the forced cells as the released guide's own fill.sh prints them over the translation 0166e81c0b5a6e25… (all of the seat's roots in one cut). By AI agents, Wed Nov 11 2026. No macro, syntax, notation, axiom, sorry.
-/
import Derived.Test.YtdhfpgbidlanaaaChecked
import GoSem.Claim
import GoSem.ClaimJoined
import GoSem.ClaimMapViews
import Derived.JoinedTies
import Derived.KernelRfl
namespace Go.Proofs.Ytdhfpgbidlanaaa
/- THE CELL 'sum', in the pinned program and in every row, IS THE sha256 OF THE DUMP (.gsa) THAT YtdhfpgbidlanaaaProg.lean LOADS. Nothing in Lean hashes anything: it is a label: what it is worth is what the hold of that sum in a sandbox is worth. -/
noncomputable def Try.pinned : Pinned := { name := "ytdhfpgbidlanaaa", sum := "0166e81c0b5a6e251861bc1ff230cb86c373805d7dff46951ad49b356a189a3c", checked := Try.checked }
namespace Rows
def none {H : Type} : Left H := { results := [], args := [] }

/-- 'laws.FnPow2Ceil': WHATEVER THE INPUT: true; the input reads as it did. -/
def fnPow2CeilSpec : ChangeSpec := { name := "fnPow2Ceil", fn := fun _ => fun
  | [d] => { results := [.lit (.bool true)], args := [d] }
  | _ => none }
def fnPow2CeilRow : OpenClaim := { program := "ytdhfpgbidlanaaa", sum := "0166e81c0b5a6e251861bc1ff230cb86c373805d7dff46951ad49b356a189a3c", func := "pub-copsewood/laws.FnPow2Ceil", spec := "fnPow2Ceil", apart := false }
def FnPow2CeilSaid : Prop := fnPow2CeilRow.holds Try.pinned (OpenSpec.ofChange fnPow2CeilSpec)

/-- ITS FALSE NEIGHBOUR: 'it returns false'. Refute it at one input. -/
def fnPow2CeilWrong : ChangeSpec := { name := "fnPow2Ceil", fn := fun _ => fun
  | [d] => { results := [.lit (.bool false)], args := [d] }
  | _ => none }
def FnPow2CeilWrongFalsely : Prop := fnPow2CeilRow.holds Try.pinned (OpenSpec.ofChange fnPow2CeilWrong)

/-- 'laws.FnGlobIndex': WHATEVER THE INPUT: true; the input reads as it did. -/
def fnGlobIndexSpec : ChangeSpec := { name := "fnGlobIndex", fn := fun _ => fun
  | [d1, d2, d3] => { results := [.lit (.bool true)], args := [d1, d2, d3] }
  | _ => none }
def fnGlobIndexRow : OpenClaim := { program := "ytdhfpgbidlanaaa", sum := "0166e81c0b5a6e251861bc1ff230cb86c373805d7dff46951ad49b356a189a3c", func := "pub-copsewood/laws.FnGlobIndex", spec := "fnGlobIndex", apart := false }
def FnGlobIndexSaid : Prop := fnGlobIndexRow.holds Try.pinned (OpenSpec.ofChange fnGlobIndexSpec)

/-- ITS FALSE NEIGHBOUR: 'it returns false'. Refute it at one input. -/
def fnGlobIndexWrong : ChangeSpec := { name := "fnGlobIndex", fn := fun _ => fun
  | [d1, d2, d3] => { results := [.lit (.bool false)], args := [d1, d2, d3] }
  | _ => none }
def FnGlobIndexWrongFalsely : Prop := fnGlobIndexRow.holds Try.pinned (OpenSpec.ofChange fnGlobIndexWrong)

/-- 'laws.FnGlobOpening': WHATEVER THE INPUT: true; the input reads as it did. -/
def fnGlobOpeningSpec : ChangeSpec := { name := "fnGlobOpening", fn := fun _ => fun
  | [d] => { results := [.lit (.bool true)], args := [d] }
  | _ => none }
def fnGlobOpeningRow : OpenClaim := { program := "ytdhfpgbidlanaaa", sum := "0166e81c0b5a6e251861bc1ff230cb86c373805d7dff46951ad49b356a189a3c", func := "pub-copsewood/laws.FnGlobOpening", spec := "fnGlobOpening", apart := false }
def FnGlobOpeningSaid : Prop := fnGlobOpeningRow.holds Try.pinned (OpenSpec.ofChange fnGlobOpeningSpec)

/-- ITS FALSE NEIGHBOUR: 'it returns false'. Refute it at one input. -/
def fnGlobOpeningWrong : ChangeSpec := { name := "fnGlobOpening", fn := fun _ => fun
  | [d] => { results := [.lit (.bool false)], args := [d] }
  | _ => none }
def FnGlobOpeningWrongFalsely : Prop := fnGlobOpeningRow.holds Try.pinned (OpenSpec.ofChange fnGlobOpeningWrong)

/-- 'laws.FnGlobMeta': WHATEVER THE INPUT: true; the input reads as it did. -/
def fnGlobMetaSpec : ChangeSpec := { name := "fnGlobMeta", fn := fun _ => fun
  | [d] => { results := [.lit (.bool true)], args := [d] }
  | _ => none }
def fnGlobMetaRow : OpenClaim := { program := "ytdhfpgbidlanaaa", sum := "0166e81c0b5a6e251861bc1ff230cb86c373805d7dff46951ad49b356a189a3c", func := "pub-copsewood/laws.FnGlobMeta", spec := "fnGlobMeta", apart := false }
def FnGlobMetaSaid : Prop := fnGlobMetaRow.holds Try.pinned (OpenSpec.ofChange fnGlobMetaSpec)

/-- ITS FALSE NEIGHBOUR: 'it returns false'. Refute it at one input. -/
def fnGlobMetaWrong : ChangeSpec := { name := "fnGlobMeta", fn := fun _ => fun
  | [d] => { results := [.lit (.bool false)], args := [d] }
  | _ => none }
def FnGlobMetaWrongFalsely : Prop := fnGlobMetaRow.holds Try.pinned (OpenSpec.ofChange fnGlobMetaWrong)

/-- 'laws.FnGlobMerges': WHATEVER THE INPUT: true; the input reads as it did. -/
def fnGlobMergesSpec : ChangeSpec := { name := "fnGlobMerges", fn := fun _ => fun
  | [d1, d2, d3] => { results := [.lit (.bool true)], args := [d1, d2, d3] }
  | _ => none }
def fnGlobMergesRow : OpenClaim := { program := "ytdhfpgbidlanaaa", sum := "0166e81c0b5a6e251861bc1ff230cb86c373805d7dff46951ad49b356a189a3c", func := "pub-copsewood/laws.FnGlobMerges", spec := "fnGlobMerges", apart := false }
def FnGlobMergesSaid : Prop := fnGlobMergesRow.holds Try.pinned (OpenSpec.ofChange fnGlobMergesSpec)

/-- ITS FALSE NEIGHBOUR: 'it returns false'. Refute it at one input. -/
def fnGlobMergesWrong : ChangeSpec := { name := "fnGlobMerges", fn := fun _ => fun
  | [d1, d2, d3] => { results := [.lit (.bool false)], args := [d1, d2, d3] }
  | _ => none }
def FnGlobMergesWrongFalsely : Prop := fnGlobMergesRow.holds Try.pinned (OpenSpec.ofChange fnGlobMergesWrong)

/-- 'laws.FnHashes': WHATEVER THE INPUT: true; the input reads as it did. -/
def fnHashesSpec : ChangeSpec := { name := "fnHashes", fn := fun _ => fun
  | [d] => { results := [.lit (.bool true)], args := [d] }
  | _ => none }
def fnHashesRow : OpenClaim := { program := "ytdhfpgbidlanaaa", sum := "0166e81c0b5a6e251861bc1ff230cb86c373805d7dff46951ad49b356a189a3c", func := "pub-copsewood/laws.FnHashes", spec := "fnHashes", apart := false }
def FnHashesSaid : Prop := fnHashesRow.holds Try.pinned (OpenSpec.ofChange fnHashesSpec)

/-- ITS FALSE NEIGHBOUR: 'it returns false'. Refute it at one input. -/
def fnHashesWrong : ChangeSpec := { name := "fnHashes", fn := fun _ => fun
  | [d] => { results := [.lit (.bool false)], args := [d] }
  | _ => none }
def FnHashesWrongFalsely : Prop := fnHashesRow.holds Try.pinned (OpenSpec.ofChange fnHashesWrong)

/- THE SECOND FORM. 'bulk': how many values and letters a reading holds, each counted each time it is reached (what is shared counts as often as it is met; a slice's spare places count too). A statement '..UptoSaid' is the law's where the arguments, and the package variables that the reading takes, are together of bulk at most 1048576: NARROWER than '..Said'. Prove '..Said' where nothing that the law and all that it calls make is longer than what came in: it says more and counts as full. Else prove '..UptoSaid'. A law counts once. -/
mutual
def uptoBulk {H : Type} : DataW H → Nat
  | .lit (.string bytes) => bytes.length + 1
  | .lit _ => 1
  | .nil => 1
  | .ptr d => uptoBulk d + 1
  | .slice elems spare => uptoBulkAll elems + uptoBulkAll spare + 1
  | .agg parts => uptoBulkAll parts + 1
  | .iface _ d => uptoBulk d + 1
  | .map entries => uptoBulkEntries entries + 1
  | .held _ => 1
def uptoBulkAll {H : Type} : List (DataW H) → Nat
  | [] => 0
  | d :: r => uptoBulk d + uptoBulkAll r
def uptoBulkEntries {H : Type} : List (Lit × DataW H) → Nat
  | [] => 0
  | x :: r => uptoBulkEntry x + uptoBulkEntries r
def uptoBulkEntry {H : Type} : Lit × DataW H → Nat
  | (.string bytes, d) => bytes.length + uptoBulk d + 1
  | (_, d) => uptoBulk d + 1
 end
def uptoSmall : (H : Type) → List (DataW H) → Bool := fun _ ds => decide (uptoBulkAll ds ≤ 1048576)
def OpenSpec.upto (s : _root_.Go.ChangeSpec) : _root_.Go.OpenSpec := { _root_.Go.OpenSpec.ofChange s with cond := some uptoSmall }

/-- 'laws.FnPow2Ceil', WHERE WHAT IT READS IS OF BULK AT MOST 1048576: true; the input reads as it did. -/
def fnPow2CeilUptoRow : OpenClaim := { program := "ytdhfpgbidlanaaa", sum := "0166e81c0b5a6e251861bc1ff230cb86c373805d7dff46951ad49b356a189a3c", func := "pub-copsewood/laws.FnPow2Ceil", spec := "fnPow2Ceil", apart := false, narrowed := true }
def FnPow2CeilUptoSaid : Prop := fnPow2CeilUptoRow.holds Try.pinned (OpenSpec.upto fnPow2CeilSpec)

/-- 'laws.FnGlobIndex', WHERE WHAT IT READS IS OF BULK AT MOST 1048576: true; the input reads as it did. -/
def fnGlobIndexUptoRow : OpenClaim := { program := "ytdhfpgbidlanaaa", sum := "0166e81c0b5a6e251861bc1ff230cb86c373805d7dff46951ad49b356a189a3c", func := "pub-copsewood/laws.FnGlobIndex", spec := "fnGlobIndex", apart := false, narrowed := true }
def FnGlobIndexUptoSaid : Prop := fnGlobIndexUptoRow.holds Try.pinned (OpenSpec.upto fnGlobIndexSpec)

/-- 'laws.FnGlobOpening', WHERE WHAT IT READS IS OF BULK AT MOST 1048576: true; the input reads as it did. -/
def fnGlobOpeningUptoRow : OpenClaim := { program := "ytdhfpgbidlanaaa", sum := "0166e81c0b5a6e251861bc1ff230cb86c373805d7dff46951ad49b356a189a3c", func := "pub-copsewood/laws.FnGlobOpening", spec := "fnGlobOpening", apart := false, narrowed := true }
def FnGlobOpeningUptoSaid : Prop := fnGlobOpeningUptoRow.holds Try.pinned (OpenSpec.upto fnGlobOpeningSpec)

/-- 'laws.FnGlobMeta', WHERE WHAT IT READS IS OF BULK AT MOST 1048576: true; the input reads as it did. -/
def fnGlobMetaUptoRow : OpenClaim := { program := "ytdhfpgbidlanaaa", sum := "0166e81c0b5a6e251861bc1ff230cb86c373805d7dff46951ad49b356a189a3c", func := "pub-copsewood/laws.FnGlobMeta", spec := "fnGlobMeta", apart := false, narrowed := true }
def FnGlobMetaUptoSaid : Prop := fnGlobMetaUptoRow.holds Try.pinned (OpenSpec.upto fnGlobMetaSpec)

/-- 'laws.FnGlobMerges', WHERE WHAT IT READS IS OF BULK AT MOST 1048576: true; the input reads as it did. -/
def fnGlobMergesUptoRow : OpenClaim := { program := "ytdhfpgbidlanaaa", sum := "0166e81c0b5a6e251861bc1ff230cb86c373805d7dff46951ad49b356a189a3c", func := "pub-copsewood/laws.FnGlobMerges", spec := "fnGlobMerges", apart := false, narrowed := true }
def FnGlobMergesUptoSaid : Prop := fnGlobMergesUptoRow.holds Try.pinned (OpenSpec.upto fnGlobMergesSpec)

/-- 'laws.FnHashes', WHERE WHAT IT READS IS OF BULK AT MOST 1048576: true; the input reads as it did. -/
def fnHashesUptoRow : OpenClaim := { program := "ytdhfpgbidlanaaa", sum := "0166e81c0b5a6e251861bc1ff230cb86c373805d7dff46951ad49b356a189a3c", func := "pub-copsewood/laws.FnHashes", spec := "fnHashes", apart := false, narrowed := true }
def FnHashesUptoSaid : Prop := fnHashesUptoRow.holds Try.pinned (OpenSpec.upto fnHashesSpec)

end Rows
end Go.Proofs.Ytdhfpgbidlanaaa
