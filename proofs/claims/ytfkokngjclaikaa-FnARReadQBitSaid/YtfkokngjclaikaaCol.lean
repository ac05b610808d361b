/- A column of strings: strings appended. Conditions: sizes far below the machine's. -/
import Derived.Test.YtfkokngjclaikaaSc
import Derived.Test.YtfkokngjclaikaaArL
namespace Go.Proofs.Ytfkokngjclaikaa
open Go.RowKit Go.Lib
set_option linter.unusedVariables false
theorem flat_map_sl (L : List (List UInt8)) (xs : List ByteArray) (k : Nat) (h : ∀ x ∈ xs, x.size ≤ 1000) : (L ++ (xs.take k).map sl).flatten.length ≤ L.flatten.length + k * 1000 := by
  induction k with
  | zero => simp
  | succ k ih =>
    rcases Nat.lt_or_ge k xs.length with hlt | hge
    · rw [List.take_add_one, List.getElem?_eq_getElem hlt]
      have := h _ (List.getElem_mem hlt)
      simp only [Option.toList, List.map_append, List.map_cons, List.map_nil, List.flatten_append, List.length_append, List.flatten_cons, List.flatten_nil, List.append_nil, sl_length] at ih ⊢
      omega
    · rw [List.take_of_length_le (by omega)]
      rw [List.take_of_length_le (by omega)] at ih
      exact Nat.le_trans ih (Nat.add_le_add_left (Nat.mul_le_mul_right _ (Nat.le_succ k)) _)

end Go.Proofs.Ytfkokngjclaikaa
