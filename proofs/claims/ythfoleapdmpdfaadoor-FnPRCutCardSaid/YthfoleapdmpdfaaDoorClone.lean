/- slices.Clone of bytes: a row of the call's own with the same bytes. Conditions: the argument reads as its bytes. -/
import Derived.Test.YthfoleapdmpdfaaDoorBuf
import Derived.WalkSpells
namespace Go.Proofs.YthfoleapdmpdfaaDoor
open Go.RowKit
end Go.Proofs.YthfoleapdmpdfaaDoor
