/- Wide numbers' bytes are those of their words. Conditions: none. -/
import Derived.Test.YtmdmccjmmljbkaaGreatWe
import Derived.Test.YtmdmccjmmljbkaaGreatU64
namespace Go.Proofs.YtmdmccjmmljbkaaGreat
open Go.RowKit Go.Lib
set_option linter.unusedVariables false
/-- The first two words of each row, one behind the other. -/
def two (l : List W4) : List Nat := (l.map fun x => [x.1, x.2.1]).flatten
/-- All words of each row. -/
def four (l : List W4) : List Nat := (l.map fun x => [x.1, x.2.1, x.2.2.1, x.2.2.2]).flatten
theorem u64s_app (a b : List Nat) : u64s (a ++ b) = u64s a ++ u64s b := by simp [u64s]
theorem wbs2_words (l : List W4) : wbs2 (l.map fun x => (x.1, x.2.1)) = u64s (two l) := by
  induction l with
  | nil => rfl
  | cons x r ih =>
    have h1 : two (x :: r) = [x.1, x.2.1] ++ two r := rfl
    have h2 : wbs2 ((x :: r).map fun x => (x.1, x.2.1)) = wB2 x.1 x.2.1 ++ wbs2 (r.map fun x => (x.1, x.2.1)) := rfl
    rw [h1, h2, u64s_app, ih]
    simp [u64s, wB2]
theorem wbs4_words (l : List W4) : wbs4 l = u64s (four l) := by
  induction l with
  | nil => rfl
  | cons x r ih =>
    have h1 : four (x :: r) = [x.1, x.2.1, x.2.2.1, x.2.2.2] ++ four r := rfl
    have h2 : wbs4 (x :: r) = wB4 x.1 x.2.1 x.2.2.1 x.2.2.2 ++ wbs4 r := rfl
    rw [h1, h2, u64s_app, ih]
    simp [u64s, wB4]
theorem two_length (l : List W4) : (two l).length = 2 * l.length := by
  induction l with
  | nil => rfl
  | cons x r ih => rw [show two (x :: r) = [x.1, x.2.1] ++ two r from rfl, List.length_append, ih, List.length_cons]; simp; omega
theorem four_length (l : List W4) : (four l).length = 4 * l.length := by
  induction l with
  | nil => rfl
  | cons x r ih => rw [show four (x :: r) = [x.1, x.2.1, x.2.2.1, x.2.2.2] ++ four r from rfl, List.length_append, ih, List.length_cons]; simp; omega
theorem two_snoc (l : List W4) (x : W4) : two (l ++ [x]) = two l ++ [x.1, x.2.1] := by simp [two]
theorem four_snoc (l : List W4) (x : W4) : four (l ++ [x]) = four l ++ [x.1, x.2.1, x.2.2.1, x.2.2.2] := by simp [four]
end Go.Proofs.YtmdmccjmmljbkaaGreat
