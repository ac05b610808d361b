/- Results that lie in one cell. No conditions but those that each theorem names. -/
import Derived.Test.YtmdmccjmmljbkaaGreatMem
namespace Go.Proofs.YtmdmccjmmljbkaaGreat
open Go.RowKit
set_option linter.unusedVariables false
theorem results_cell1 {P : Program} {fn : Func} {t : Tmp} {ty : TypeId} (h : fn.results = #[.cell t ty]) (tmps : Array Value) (p : Addr) (w : World) (x : Value) (hp : tmps.getD t undef = .pointer (some p)) (hx : (loadVar ty p).run P w = .ok x w) :
    (results fn tmps).run P w = .ok x w := by
  have hp2 : tmps[t]?.getD undef = .pointer (some p) := by simpa using hp
  simp [results, h, hp2, asAddr, hx]
end Go.Proofs.YtmdmccjmmljbkaaGreat
