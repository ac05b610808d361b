/- A column of arrays of numbers of 32 bits encoded into a buffer; columns made ready and encoded, of whatever kind. Conditions: sizes far below the machine's; the column lies below the buffer. -/
import Derived.Test.YtfkokngjclaikaaNa
import Derived.Test.YtfkokngjclaikaaNc
namespace Go.Proofs.Ytfkokngjclaikaa
open Go.RowKit Go.Lib
set_option linter.unusedVariables false
def narrB (RR : List (List Nat)) : List UInt8 := u64s (ends 0 (RR.map List.length)) ++ u32s RR.flatten
def NArrEnc (w : World) (base bb : Nat) (X : Option Addr) (l : List UInt8) (RR : List (List Nat)) (e : Ending) (w' : World) : Prop := ∃ A' c', e = .returned (.tuple #[]) ∧ Put w w' base bb X A' c' (l ++ narrB RR)
end Go.Proofs.Ytfkokngjclaikaa
