-- written by a program of this work
import Derived.Test.YtmdgbbiipjmenaaProg
import Derived.Lib.Hide
import Derived.Laws.Cover4
import Derived.Below
import Derived.Deep.Draws
import Derived.Deep.AppendLies
import Derived.Maps.AppendAt
import Derived.OwnWalk
import Derived.Laws.BytesArg
import Derived.Laws.MakeOwn
import Derived.Laws.OwnMore
import Derived.Deep.OwnRows
import Derived.Tactics
import Derived.Lib.ConvBytes
import Derived.Laws.Slices
import Derived.WalkKit
import Derived.KernelRfl
import Derived.RowKit3
import Derived.Deep.LoopGhost
import Derived.Deep.QuietTactic
import Derived.BigQuiet
import Derived.WideLaws
import Derived.Deep.DeepCutAuto
import Derived.Deep.CutBlock
import Derived.Deep.RegionHeld3
import Derived.Laws.Rows
import Derived.Lib.AppendStr
import Derived.ArgAppend
import Derived.Laws.IdiomCopy
import Derived.OrdersHeld
import Derived.Laws.BitsLemmas
import Derived.RowKit
import Derived.Test.YtmdgbbiipjmenaaWWords
import Derived.Test.YtmdgbbiipjmenaaWLast
import Derived.Test.YtmdgbbiipjmenaaWTab
import Derived.Test.YtmdgbbiipjmenaaWFour
import Derived.Test.YtmdgbbiipjmenaaWQPut
import Derived.Test.YtmdgbbiipjmenaaWApart
import Derived.Test.YtmdgbbiipjmenaaWArr
import Derived.Test.YtmdgbbiipjmenaaWZeros
import Derived.Test.YtmdgbbiipjmenaaWFoot
import Derived.Test.YtmdgbbiipjmenaaWKept
import Derived.Test.YtmdgbbiipjmenaaWShare
import Derived.Test.YtmdgbbiipjmenaaWN
import Derived.Test.YtmdgbbiipjmenaaWFootNe
import Derived.Test.YtmdgbbiipjmenaaWAt
import Derived.Test.YtmdgbbiipjmenaaWEqStruct
import Derived.Test.YtmdgbbiipjmenaaWRepsOne
import Derived.Test.YtmdgbbiipjmenaaWInv
import Derived.Test.YtmdgbbiipjmenaaWInvWords
import Derived.Test.YtmdgbbiipjmenaaWGuard
import Derived.Test.YtmdgbbiipjmenaaWNEv
import Derived.Test.YtmdgbbiipjmenaaWMore
namespace Go.Proofs.Ytmdgbbiipjmenaa.PFnPlural
open Go.RowKit Go.Proofs.YtmdgbbiipjmenaaW.PrintWords Go.Proofs.YtmdgbbiipjmenaaW.PrintLast Go.Proofs.YtmdgbbiipjmenaaW.PrintMore
attribute [local go_sem] max2_int min2_int max_two min_two max_three min_three max_four min_four   -- for this text's walks alone
set_option linter.unusedVariables false
set_option linter.unusedSimpArgs false



def errW : Option Int → Value
  | none => .nilIface
  | some c => .iface 0 (.int .i64 c)
theorem errW_none : errW none = .nilIface := rfl
theorem errW_some (c : Int) : errW (some c) = .iface 0 (.int .i64 c) := rfl

theorem info5 : (Try.prog.info? 5).map (fun i => (i.zero, i.size, i.bytes)) = some (some (.int .u8 0), 1, 1) := by kernel_rfl
theorem info9 : (Try.prog.info? 9).map (fun i => (i.zero, i.size, i.bytes)) = some (some (.string ⟨#[]⟩), 1, 16) := by kernel_rfl
-- the values' own types

end Go.Proofs.Ytmdgbbiipjmenaa.PFnPlural
