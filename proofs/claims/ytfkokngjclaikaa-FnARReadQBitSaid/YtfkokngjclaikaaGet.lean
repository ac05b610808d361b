/- Contracts of the little-endian loads of Go's library. Conditions: the cells that are read are bytes. -/
import Derived.Test.YtfkokngjclaikaaMem
import Derived.Test.YtfkokngjclaikaaRows
import Derived.WalkSpells
import Derived.WalkLawsBesides
import Derived.Deep.QuietTactic
import Derived.BigQuiet
import Derived.Lib.EndianMore
import Derived.Lib.EndianBits
namespace Go.Proofs.Ytfkokngjclaikaa
open Go.RowKit
theorem ret_int {k : IntKind} {a b : Int} (h : a = b) : Ending.returned (.int k a) = .returned (.int k b) := by rw [h]
end Go.Proofs.Ytfkokngjclaikaa
