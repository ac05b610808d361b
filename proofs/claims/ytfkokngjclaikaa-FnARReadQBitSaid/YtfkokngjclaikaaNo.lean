/- ARNum: rows of numbers encoded by a new column of arrays of numbers. Conditions: sizes far below the machine's. -/
import Derived.Test.YtfkokngjclaikaaNe
import Derived.Test.YtfkokngjclaikaaOk
import Derived.Test.YtfkokngjclaikaaArS
import Derived.Test.YtfkokngjclaikaaOpen
namespace Go.Proofs.Ytfkokngjclaikaa
open Go.RowKit Go.Lib
set_option linter.unusedVariables false
def NumsOf (w : World) (A : Option Addr) (RR : List (List Nat)) : Prop := RowsV w A (RR.map nv)
end Go.Proofs.Ytfkokngjclaikaa
