/- A column of arrays of strings made ready: nothing is to be done. Encoded into a new buffer. -/
import Derived.Test.YtfkokngjclaikaaAe
import Derived.Stop.Asserts
namespace Go.Proofs.Ytfkokngjclaikaa
open Go.RowKit Go.Lib
set_option linter.unusedVariables false
end Go.Proofs.Ytfkokngjclaikaa
