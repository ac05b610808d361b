/- bytes.Equal says whether two lists of bytes are one. Conditions: each argument reads as its list. -/
import Derived.Test.YtoilbojaenfalaaGreatMem
import Derived.Test.YtoilbojaenfalaaGreatRows
import Derived.WalkSpells
import Derived.WalkLawsBesides
namespace Go.Proofs.YtoilbojaenfalaaGreat
open Go.RowKit
set_option maxHeartbeats 400000 in
theorem bytesEq (w : World) (A A2 : Option Addr) (n c m c2 : Nat) (l d : List UInt8) (h1 : Rd w 1 A n (Lib.byteCells l)) (h2 : Rd w 1 A2 m (Lib.byteCells d)) :
    Calls Tryz.prog 6 #[.slice A n c, .slice A2 m c2] w fun e w' => e = .returned (.bool (decide (l = d))) ∧ w = w' := by
  have e1 := run_str_rd (P := Tryz.prog) (c := c) Tryz.underlying30 Tryz.underlying5 Tryz.underlying9 h1
  have e2 := run_str_rd (P := Tryz.prog) (c := c2) Tryz.underlying30 Tryz.underlying5 Tryz.underlying9 h2
  go_enter Tryz.func6, Tryz.ntmps6
  go_wp2
  go_ret
  have hb : (l == d) = decide (l = d) := by rw [Bool.eq_iff_iff]; simp
  exact ⟨by rw [← hb]; rfl, rfl⟩
end Go.Proofs.YtoilbojaenfalaaGreat
