-- written by a program of this work
import Derived.Test.YtnpkocpknmhngaaDoorProg
import Derived.Lib.Hide
import Derived.Laws.Cover4
import Derived.Below
import Derived.Deep.Draws
import Derived.Deep.AppendLies
import Derived.Maps.AppendAt
import Derived.OwnWalk
import Derived.Laws.BytesArg
import Derived.Laws.MakeOwn
import Derived.Laws.OwnMore
import Derived.Deep.OwnRows
import Derived.Tactics
import Derived.Lib.ConvBytes
import Derived.Laws.Slices
import Derived.WalkKit
import Derived.KernelRfl
import Derived.RowKit3
import Derived.Deep.LoopGhost
import Derived.Deep.QuietTactic
import Derived.BigQuiet
import Derived.WideLaws
import Derived.Deep.DeepCutAuto
import Derived.Deep.CutBlock
import Derived.Deep.RegionHeld3
import Derived.Laws.Rows
import Derived.Lib.AppendStr
import Derived.ArgAppend
import Derived.Laws.IdiomCopy
import Derived.OrdersHeld
import Derived.Laws.BitsLemmas
import Derived.RowKit
import Derived.Test.YtnpkocpknmhngaaDoorWWords
import Derived.Test.YtnpkocpknmhngaaDoorWLast
import Derived.Test.YtnpkocpknmhngaaDoorWTab
import Derived.Test.YtnpkocpknmhngaaDoorWFour
import Derived.Test.YtnpkocpknmhngaaDoorWQPut
import Derived.Test.YtnpkocpknmhngaaDoorWApart
import Derived.Test.YtnpkocpknmhngaaDoorWArr
import Derived.Test.YtnpkocpknmhngaaDoorWZeros
import Derived.Test.YtnpkocpknmhngaaDoorWFoot
import Derived.Test.YtnpkocpknmhngaaDoorWKept
import Derived.Test.YtnpkocpknmhngaaDoorWShare
import Derived.Test.YtnpkocpknmhngaaDoorWN
import Derived.Test.YtnpkocpknmhngaaDoorWFootNe
import Derived.Test.YtnpkocpknmhngaaDoorWAt
import Derived.Test.YtnpkocpknmhngaaDoorWEqStruct
import Derived.Test.YtnpkocpknmhngaaDoorWRepsOne
import Derived.Test.YtnpkocpknmhngaaDoorWInv
import Derived.Test.YtnpkocpknmhngaaDoorWInvWords
import Derived.Test.YtnpkocpknmhngaaDoorWGuard
import Derived.Test.YtnpkocpknmhngaaDoorWNEv
import Derived.Test.YtnpkocpknmhngaaDoorWMore
namespace Go.Proofs.YtnpkocpknmhngaaDoor.PPi
open Go.RowKit Go.Proofs.YtnpkocpknmhngaaDoorW.PrintWords Go.Proofs.YtnpkocpknmhngaaDoorW.PrintLast Go.Proofs.YtnpkocpknmhngaaDoorW.PrintMore
attribute [local go_sem] max2_int min2_int max_two min_two max_three min_three max_four min_four   -- for this text's walks alone
set_option linter.unusedVariables false
set_option linter.unusedSimpArgs false



def errW : Option Int → Value
  | none => .nilIface
  | some c => .iface 0 (.int .i64 c)
theorem errW_none : errW none = .nilIface := rfl
theorem errW_some (c : Int) : errW (some c) = .iface 0 (.int .i64 c) := rfl

-- the values' own types

end Go.Proofs.YtnpkocpknmhngaaDoor.PPi
