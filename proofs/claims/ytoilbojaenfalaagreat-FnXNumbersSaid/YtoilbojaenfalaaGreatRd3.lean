/- Contracts of truth values and signed numbers that a reader reads. Conditions as in the text of the reader. -/
import Derived.Test.YtoilbojaenfalaaGreatUvr
namespace Go.Proofs.YtoilbojaenfalaaGreat
open Go.RowKit
/-- What a truth value from the front of d is, or an error. -/
def BoolGo (w : World) (base rb bb : Nat) (D R : Option Nat) (d : List UInt8) (e : Ending) (w' : World) : Prop :=
  (∃ b l, d = b :: l ∧ b.toNat ≤ 1 ∧ e = .returned (.tuple #[.bool (decide (b.toNat = 1)), .nilIface]) ∧ RdrGo w w' base rb bb D R l) ∨
  (∃ v l, (d = [] ∨ ∃ b m, d = b :: m ∧ 1 < b.toNat) ∧ e = .returned (.tuple #[.bool false, v]) ∧ IsErr v ∧ RdrGo w w' base rb bb D R l)
theorem wrap_i8 (n : Int) : IntKind.i8.wrap n = (n + 128) % 256 - 128 := by
  simp [IntKind.wrap, IntKind.bits, IntKind.signed]; split <;> omega
theorem wrap_i16 (n : Int) : IntKind.i16.wrap n = (n + 32768) % 65536 - 32768 := by
  simp [IntKind.wrap, IntKind.bits, IntKind.signed]; split <;> omega




end Go.Proofs.YtoilbojaenfalaaGreat
