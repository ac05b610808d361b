/- Columns made ready and encoded, of whatever kind. Conditions: what the method called is shown to do. -/
import Derived.Test.YtfkokngjclaikaaEs
import Derived.Test.YtfkokngjclaikaaNm
import Derived.Test.YtfkokngjclaikaaPre
namespace Go.Proofs.Ytfkokngjclaikaa
open Go.RowKit Go.Lib
set_option linter.unusedVariables false
/-- A column of whatever kind, encoded into a new buffer. -/
def bufW (w : World) : World := w.alloc (.cells #[.slice none 0 0] 69)
end Go.Proofs.Ytfkokngjclaikaa
