-- written by a program of this work
import Derived.Test.YtnpkocpknmhngaaDoorPPix0
import Derived.Test.YtnpkocpknmhngaaDoorPPix1
namespace Go.Proofs.YtnpkocpknmhngaaDoor.PPi
open Go.RowKit Go.Proofs.YtnpkocpknmhngaaDoorW.PrintWords Go.Proofs.YtnpkocpknmhngaaDoorW.PrintLast Go.Proofs.YtnpkocpknmhngaaDoorW.PrintMore
attribute [local go_sem] max2_int min2_int max_two min_two max_three min_three max_four min_four   -- for this text's walks alone
set_option linter.unusedVariables false
set_option linter.unusedSimpArgs false

end Go.Proofs.YtnpkocpknmhngaaDoor.PPi
