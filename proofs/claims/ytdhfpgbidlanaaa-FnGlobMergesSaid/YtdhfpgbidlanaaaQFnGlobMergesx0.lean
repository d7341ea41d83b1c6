/- The machine's side of a law, as the kit's print writes it; of the functions that the print doesn't cover this session's own contracts stand in it: no condition. -/
import Derived.Test.YtdhfpgbidlanaaaProg
import Derived.Below
import Derived.Deep.Draws
import Derived.Deep.AppendLies
import Derived.Maps.AppendAt
import Derived.OwnWalk
import Derived.Laws.BytesArg
import Derived.Laws.MakeOwn
import Derived.Laws.OwnMore
import Derived.Deep.OwnRows
import Derived.Tactics
import Derived.Lib.ConvBytes
import Derived.Laws.Slices
import Derived.WalkKit
import Derived.KernelRfl
import Derived.RowKit3
import Derived.Deep.LoopGhost
import Derived.Deep.QuietTactic
import Derived.BigQuiet
import Derived.WideLaws
import Derived.Deep.DeepCutAuto
import Derived.Deep.CutBlock
import Derived.Deep.RegionHeld3
import Derived.Laws.Rows
import Derived.Lib.AppendStr
import Derived.ArgAppend
import Derived.Laws.IdiomCopy
import Derived.OrdersHeld
import Derived.Laws.BitsLemmas
import Derived.RowKit
import Derived.Laws.Cover1
import Derived.Test.YtdhfpgbidlanaaaWWords
import Derived.Test.YtdhfpgbidlanaaaWLast
import Derived.Test.YtdhfpgbidlanaaaWTab
import Derived.Test.YtdhfpgbidlanaaaWFour
import Derived.Test.YtdhfpgbidlanaaaWQPut
import Derived.Test.YtdhfpgbidlanaaaWApart
import Derived.Test.YtdhfpgbidlanaaaWArr
import Derived.Test.YtdhfpgbidlanaaaWZeros
import Derived.Test.YtdhfpgbidlanaaaWFoot
import Derived.Test.YtdhfpgbidlanaaaWKept
import Derived.Test.YtdhfpgbidlanaaaWShare
import Derived.Test.YtdhfpgbidlanaaaWN
import Derived.Test.YtdhfpgbidlanaaaWFootNe
import Derived.Test.YtdhfpgbidlanaaaWAt
import Derived.Test.YtdhfpgbidlanaaaWEqStruct
import Derived.Test.YtdhfpgbidlanaaaWRepsOne
import Derived.Test.YtdhfpgbidlanaaaWInv
import Derived.Test.YtdhfpgbidlanaaaWInvWords
import Derived.Test.YtdhfpgbidlanaaaWGuard
import Derived.Test.YtdhfpgbidlanaaaWNEv
import Derived.Test.YtdhfpgbidlanaaaWMore
namespace Go.Proofs.Ytdhfpgbidlanaaa.QFnGlobMerges
open Go.RowKit Go.Proofs.YtdhfpgbidlanaaaW.PrintWords Go.Proofs.YtdhfpgbidlanaaaW.PrintLast Go.Proofs.YtdhfpgbidlanaaaW.PrintMore
attribute [local go_sem] max2_int min2_int max_two min_two max_three min_three max_four min_four   -- for this text's walks alone
set_option linter.unusedVariables false
set_option linter.unusedSimpArgs false



def errW : Option Int → Value
  | none => .nilIface
  | some c => .iface 0 (.int .i64 c)
theorem errW_none : errW none = .nilIface := rfl
theorem errW_some (c : Int) : errW (some c) = .iface 0 (.int .i64 c) := rfl

theorem info9 : (Try.prog.info? 9).map (fun i => (i.zero, i.size, i.bytes)) = some (some (.string ⟨#[]⟩), 1, 16) := by kernel_rfl
-- the values' own types

end Go.Proofs.Ytdhfpgbidlanaaa.QFnGlobMerges
