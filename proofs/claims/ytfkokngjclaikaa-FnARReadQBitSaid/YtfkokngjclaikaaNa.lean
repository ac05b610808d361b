/- A column of arrays of numbers of 32 bits: rows appended, encoded. Conditions: sizes far below the machine's. -/
import Derived.Test.YtfkokngjclaikaaNm
import Derived.Test.YtfkokngjclaikaaEs
namespace Go.Proofs.Ytfkokngjclaikaa
open Go.RowKit Go.Lib
set_option linter.unusedVariables false
def offV (ns : List Nat) : List Value := (ends 0 ns).map fun x : Nat => .int .u64 (x : Int)
theorem offV_snoc (ns : List Nat) (x : Nat) : offV (ns ++ [x]) = offV ns ++ [.int .u64 ((ns.sum + x : Nat) : Int)] := by
  rw [offV, ends_snoc, List.map_append, Nat.zero_add, offV]
  rfl
end Go.Proofs.Ytfkokngjclaikaa
