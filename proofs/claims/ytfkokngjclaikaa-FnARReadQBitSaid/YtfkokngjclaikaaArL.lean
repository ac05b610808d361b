/- The lists that the laws on arrays of strings look at. Conditions: lengths that an argument can have. -/
import Derived.Test.YtfkokngjclaikaaArS
namespace Go.Proofs.Ytfkokngjclaikaa
open Go.RowKit Go.Lib
set_option linter.unusedVariables false
def RowsRes (w : World) (LL : List (List ByteArray)) (n : Nat) (e : Ending) (w' : World) : Prop := ∃ A' c', e = .returned (.slice A' n c') ∧ RowsOf w' A' LL ∧ Keeps (fun _ => False) w w'
def SomeB (e : Ending) : Prop := ∃ b, e = .returned (.bool b)

/-- A text cut at 60 bytes; the words that are looked at. -/
def cut60 (s : ByteArray) : ByteArray := if 60 < s.size then s.extract 0 60 else s
def wordsOf (m : Nat) (xs : List ByteArray) : List ByteArray := (xs.take m).map cut60
theorem cut60_size (s : ByteArray) : (cut60 s).size ≤ 60 := by
  unfold cut60
  split
  · rw [ByteArray.size_extract]; omega
  · omega
theorem wordsOf_step {m k : Nat} {xs : List ByteArray} {x : ByteArray} (h : xs[k]? = some x) : (wordsOf (k + 1) xs) = wordsOf k xs ++ [cut60 x] := by
  rw [wordsOf, List.take_add_one, h]; simp [wordsOf]
theorem wordsOf_length (m : Nat) (xs : List ByteArray) : (wordsOf m xs).length = min m xs.length := by simp [wordsOf]

/-- The rows that are looked at. -/
def listsOf (LL : List (List ByteArray)) : List (List ByteArray) := (LL.take 20).map (wordsOf 12) ++ [[(⟨#[111, 110, 101]⟩ : ByteArray), ⟨#[]⟩, ⟨#[116, 119, 111]⟩]]
theorem lists_step {LL : List (List ByteArray)} {k : Nat} {X : List ByteArray} (h : LL[k]? = some X) : ((LL.take (k + 1)).map (wordsOf 12)).map (fun L => L.map Value.string) = ((LL.take k).map (wordsOf 12)).map (fun L => L.map Value.string) ++ [(wordsOf 12 X).map Value.string] := by
  rw [List.take_add_one, h]; simp

end Go.Proofs.Ytfkokngjclaikaa
