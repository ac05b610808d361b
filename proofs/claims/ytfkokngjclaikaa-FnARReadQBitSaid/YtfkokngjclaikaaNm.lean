/- A column of numbers of 32 bits: numbers appended, how many there are, encoded. Conditions: sizes far below the machine's. -/
import Derived.Test.YtfkokngjclaikaaU32
import Derived.Test.YtfkokngjclaikaaApp
import Derived.Test.YtfkokngjclaikaaArr
import Derived.Test.YtfkokngjclaikaaAe
import Derived.Test.YtfkokngjclaikaaPre
namespace Go.Proofs.Ytfkokngjclaikaa
open Go.RowKit Go.Lib
set_option linter.unusedVariables false
theorem infoN : (Try.prog.info? 32).map (fun i => (i.zero, i.size, i.bytes)) = some (some (.int .u32 0), 1, 4) := by kernel_rfl
def nv (xs : List Nat) : List Value := xs.map fun x : Nat => .int .u32 (x : Int)
theorem nv_app (a b : List Nat) : nv (a ++ b) = nv a ++ nv b := by simp [nv]
theorem nv_one (xs : List Nat) : ∀ u ∈ nv xs, u.oneCell' = true := by
  intro u hu
  obtain ⟨x, _, rfl⟩ := List.mem_map.1 hu
  rfl
end Go.Proofs.Ytfkokngjclaikaa
