/- A column of numbers of 32 bits encoded into a buffer: each number's four bytes. Conditions: sizes far below the machine's; the column's row lies apart from the buffer's. -/
import Derived.Test.YtfkokngjclaikaaU64
namespace Go.Proofs.Ytfkokngjclaikaa
open Go.RowKit Go.Lib
set_option linter.unusedVariables false
/-- The bytes of these numbers. -/
def u32s (xs : List Nat) : List UInt8 := (xs.map (leb 4)).flatten
theorem u32s_length (xs : List Nat) : (u32s xs).length = 4 * xs.length := by
  induction xs with
  | nil => rfl
  | cons x r ih => rw [u32s, List.map_cons, List.flatten_cons, List.length_append, leb_length, ← u32s, ih, List.length_cons]; omega
theorem u32s_snoc (xs : List Nat) (x : Nat) : u32s (xs ++ [x]) = u32s xs ++ leb 4 x := by simp [u32s]
/-- Zeros in which the next number is laid. -/
theorem zer_step4 (l : List UInt8) (x m : Nat) (hm : 4 ≤ m) : ((Lib.byteCells l ++ zer m).take l.length ++ Lib.byteCells (leb 4 x) ++ (Lib.byteCells l ++ zer m).drop (l.length + 4)) = Lib.byteCells (l ++ leb 4 x) ++ zer (m - 4) := by
  have hl : (Lib.byteCells l).length = l.length := Lib.byteCells_length l
  rw [← hl, List.take_left, List.drop_append, List.drop_of_length_le (by omega), List.nil_append, Nat.add_sub_cancel_left, Lib.byteCells_append, zer, List.drop_replicate, ← zer]

/-- Within the loop: k numbers are laid, the others are zeros yet. -/
structure U32At (w wr : World) (base bb g1 N k1 n k : Nat) (A : Option Addr) (l : List UInt8) (xs : List Nat) : Prop where
  blk : Whole wr bb 69 #[.slice (some ⟨g1, 0, none⟩) N k1]
  own : wr.ownsRow base 5 1 (.slice (some ⟨g1, 0, none⟩) N k1) N (Lib.byteCells (l ++ u32s (xs.take k)) ++ zer (4 * (n - k)))
  keeps : Keeps (fun i => i = bb ∨ ob A = some i) w wr

def U32Res (w : World) (base bb : Nat) (A : Option Addr) (l : List UInt8) (xs : List Nat) (e : Ending) (w' : World) : Prop := ∃ A' c', e = .returned (.tuple #[]) ∧ Put w w' base bb A A' c' (l ++ u32s xs)

end Go.Proofs.Ytfkokngjclaikaa
