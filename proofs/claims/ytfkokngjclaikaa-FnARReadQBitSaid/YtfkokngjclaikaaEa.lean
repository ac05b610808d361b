/- A column of arrays of strings encoded into a new buffer of its own: through a bound method. -/
import Derived.Test.YtfkokngjclaikaaPre
namespace Go.Proofs.Ytfkokngjclaikaa
open Go.RowKit Go.Lib
set_option linter.unusedVariables false
def EncRes (w : World) (l : List UInt8) (e : Ending) (w' : World) : Prop := ∃ A c, e = .returned (.slice A l.length c) ∧ w'.ownsRow w.heap.size 5 1 (.slice A l.length c) l.length (Lib.byteCells l) ∧ Keeps (fun _ => False) w w'
end Go.Proofs.Ytfkokngjclaikaa
