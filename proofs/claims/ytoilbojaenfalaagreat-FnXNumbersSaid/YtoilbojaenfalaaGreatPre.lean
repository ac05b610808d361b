/- A column of arrays of strings made ready: nothing is to be done. Encoded into a new buffer. -/
import Derived.Test.YtoilbojaenfalaaGreatAe
import Derived.Stop.Asserts
namespace Go.Proofs.YtoilbojaenfalaaGreat
open Go.RowKit Go.Lib
set_option linter.unusedVariables false
end Go.Proofs.YtoilbojaenfalaaGreat
