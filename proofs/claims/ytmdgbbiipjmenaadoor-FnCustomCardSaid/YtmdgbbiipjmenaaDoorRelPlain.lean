/- What a format is filled to, in plain Lean. -/
import Derived.Test.YtmdgbbiipjmenaaDoorPlainDec
namespace Go.Proofs.YtmdgbbiipjmenaaDoor.RelPlain
/-- %s is the label, %d the number, % and another letter that letter. -/
def fillL (lb num : List UInt8) : Bool → List UInt8 → List UInt8
  | _, [] => []
  | true, c :: t => (if c = 115 then lb else if c = 100 then num else [c]) ++ fillL lb num false t
  | false, c :: t => if c = 37 then fillL lb num true t else c :: fillL lb num false t
end Go.Proofs.YtmdgbbiipjmenaaDoor.RelPlain
