/- A column of arrays of strings: rows appended. Conditions: sizes far below the machine's. -/
import Derived.Test.YtfkokngjclaikaaCol
import Derived.Test.YtfkokngjclaikaaMt
import Derived.Deep.RegionHeld3
import Derived.Deep.RegionLaw
import Derived.Deep.DrawnRows
import Derived.IntWalk
import Derived.Laws.Rows
import Derived.ChangeKeysEq
namespace Go.Proofs.Ytfkokngjclaikaa
open Go.RowKit Go.Lib
set_option linter.unusedVariables false
attribute [local go_sem ↓] Go.wp_at_zero Go.wp_at_succ
theorem infoU64E : (Try.prog.info? 61).map (fun i => (i.zero, i.size, i.bytes)) = some (some (.int .u64 0), 1, 8) := by kernel_rfl
/-- Where rows of these lengths end, from s on. -/
def ends : Nat → List Nat → List Nat
  | _, [] => []
  | s, k :: r => (s + k) :: ends (s + k) r
theorem ends_length : ∀ (s : Nat) (l : List Nat), (ends s l).length = l.length
  | _, [] => rfl
  | s, k :: r => by rw [ends, List.length_cons, ends_length, List.length_cons]
theorem ends_snoc : ∀ (s : Nat) (l : List Nat) (x : Nat), ends s (l ++ [x]) = ends s l ++ [s + l.sum + x]
  | s, [], x => by simp [ends]
  | s, k :: r, x => by rw [List.cons_append, ends, ends_snoc, ends, List.sum_cons, List.cons_append, Nat.add_assoc s k]
def offVals (RR : List (List ByteArray)) : List Value := (ends 0 (RR.map List.length)).map fun x : Nat => .int .u64 (x : Int)
theorem offVals_snoc (RR : List (List ByteArray)) (X : List ByteArray) : offVals (RR ++ [X]) = offVals RR ++ [.int .u64 ((RR.flatten.length + X.length : Nat) : Int)] := by
  rw [offVals, List.map_append, List.map_cons, List.map_nil, ends_snoc, List.map_append, Nat.zero_add, offVals, List.length_flatten]
  rfl
def ArrS (ga gs : Nat) (O A B : Option Addr) : Nat → Prop := fun k => k = ga ∨ ob O = some k ∨ k = gs ∨ ob A = some k ∨ ob B = some k
end Go.Proofs.Ytfkokngjclaikaa
