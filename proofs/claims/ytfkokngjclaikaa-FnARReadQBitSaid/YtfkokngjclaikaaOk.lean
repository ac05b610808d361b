/- What a column that is encoded answers with. No conditions but those that each theorem names. -/
import Derived.Test.YtfkokngjclaikaaEs
import Derived.Test.YtfkokngjclaikaaArS
namespace Go.Proofs.Ytfkokngjclaikaa
open Go.RowKit Go.Lib
set_option linter.unusedVariables false
/-- What ARStr answers with: the column's bytes. -/
def ArOk (w : World) (l : List UInt8) (e : Ending) (w' : World) : Prop := ∃ A c, e = .returned (.tuple #[.slice A l.length c, .bool true]) ∧ w'.ownsRow w.heap.size 5 1 (.slice A l.length c) l.length (Lib.byteCells l) ∧ Keeps (fun _ => False) w w'
theorem ArOk.of {w w1 w' : World} {l : List UInt8} {e : Ending} (hK : Keeps (fun _ => False) w w1) (h : EncOk w1 l e w') : ArOk w l e w' := by
  obtain ⟨A, c, b, he, hb, ho, K⟩ := h
  exact ⟨A, c, he, own_base_le ho (Nat.le_trans hK.size hb), hK.trans K (fun _ _ h => h)⟩
end Go.Proofs.Ytfkokngjclaikaa
