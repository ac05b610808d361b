/- bytes.Equal says whether two lists of bytes are one. Conditions: each argument reads as its list. -/
import Derived.Test.YthfoleapdmpdfaaDoorMem
import Derived.Test.YthfoleapdmpdfaaDoorRows
import Derived.WalkSpells
import Derived.WalkLawsBesides
namespace Go.Proofs.YthfoleapdmpdfaaDoor
open Go.RowKit
set_option maxHeartbeats 400000 in
theorem bytesEq (w : World) (A A2 : Option Addr) (n c m c2 : Nat) (l d : List UInt8) (h1 : Rd w 1 A n (Lib.byteCells l)) (h2 : Rd w 1 A2 m (Lib.byteCells d)) :
    Calls Tryd.prog 21 #[.slice A n c, .slice A2 m c2] w fun e w' => e = .returned (.bool (decide (l = d))) ∧ w = w' := by
  have e1 := run_str_rd (P := Tryd.prog) (c := c) Tryd.underlying22 Tryd.underlying5 Tryd.underlying9 h1
  have e2 := run_str_rd (P := Tryd.prog) (c := c2) Tryd.underlying22 Tryd.underlying5 Tryd.underlying9 h2
  go_enter Tryd.func21, Tryd.ntmps21
  go_wp2
  go_ret
  have hb : (l == d) = decide (l = d) := by rw [Bool.eq_iff_iff]; simp
  exact ⟨by rw [← hb]; rfl, rfl⟩
end Go.Proofs.YthfoleapdmpdfaaDoor
