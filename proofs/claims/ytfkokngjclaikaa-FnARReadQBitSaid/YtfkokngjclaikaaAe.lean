/- A column of arrays of strings encoded into a buffer: where the rows end, and the strings. Conditions: sizes far below the machine's; the column lies below the buffer. -/
import Derived.Test.YtfkokngjclaikaaArr
import Derived.Test.YtfkokngjclaikaaU64
import Derived.Test.YtfkokngjclaikaaCe
namespace Go.Proofs.Ytfkokngjclaikaa
open Go.RowKit Go.Lib
set_option linter.unusedVariables false
/-- The bytes of such a column. -/
def arrB (RR : List (List ByteArray)) : List UInt8 := u64s (ends 0 (RR.map List.length)) ++ encB (RR.flatten.map sl)
def ArrEnc (w : World) (base bb : Nat) (X : Option Addr) (l : List UInt8) (RR : List (List ByteArray)) (e : Ending) (w' : World) : Prop := ∃ A' c', e = .returned (.tuple #[]) ∧ Put w w' base bb X A' c' (l ++ arrB RR)
theorem own_cap {w : World} {base n c s : Nat} {e : TypeId} {A : Option Addr} {xs : List Value} (h : w.ownsRow base e s (.slice A n c) n xs) : n ≤ c ∧ c ≤ maxLen ∧ (0 < n → ∃ g, A = some ⟨g, 0, none⟩) := by
  rcases h.2 with ⟨hv, h0⟩ | ⟨g, cap, cur, hv, hb, hg, h1, h2, h3, h4⟩
  · injection hv with hA hN hC
    subst hC h0
    exact ⟨Nat.le_refl _, Nat.zero_le _, fun h => absurd h (by omega)⟩
  · injection hv with hA hN hC
    subst hC hA
    exact ⟨h1, h2, fun _ => ⟨g, rfl⟩⟩

end Go.Proofs.Ytfkokngjclaikaa
