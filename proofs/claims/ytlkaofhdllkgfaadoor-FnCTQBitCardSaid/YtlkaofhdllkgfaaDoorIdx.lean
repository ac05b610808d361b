/- Where a byte stands first in a text, and the texts ahead of it and behind it. Conditions: texts of at most 1000 bytes. -/
import Derived.Test.YtlkaofhdllkgfaaDoorTmI
namespace Go.Proofs.YtlkaofhdllkgfaaDoor
open Go.RowKit Go.Lib
set_option linter.unusedVariables false
theorem idx_ne {a : List UInt8} {c : UInt8} {r : List UInt8} (h : ∀ x ∈ a, ¬ x = c) : ∀ j, j < a.length → ¬ (sOf (a ++ r)).extract j (j + 1) = sOf [c] := fun j hj =>
  ex_ne (by rw [List.length_append]; omega) (by rw [List.getElem_append_left hj]; exact h _ (List.getElem_mem hj))
theorem index_at (a r : List UInt8) (c : UInt8) (hl : (a ++ c :: r).length ≤ 1000) (h : ∀ x ∈ a, ¬ x = c) (w : World) :
    Calls Tryd.prog 17 #[.string (sOf (a ++ c :: r)), .string ⟨#[c]⟩] w fun e w' => e = .returned (.int .i64 a.length) ∧ w = w' :=
  zzIndexS_at w _ _ a.length rfl (by rw [sOf_size]; omega) (by rw [sOf_size, List.length_append, List.length_cons]; omega) (ex_at a r c) (idx_ne h)
theorem index_none (a : List UInt8) (c : UInt8) (hl : a.length ≤ 1000) (h : ∀ x ∈ a, ¬ x = c) (w : World) :
    Calls Tryd.prog 17 #[.string (sOf a), .string ⟨#[c]⟩] w fun e w' => e = .returned (.int .i64 (-1)) ∧ w = w' :=
  zzIndexS_none w _ _ rfl (by rw [sOf_size]; omega) (fun j hj => by have := idx_ne (r := []) h j (by rwa [sOf_size] at hj); rwa [List.append_nil] at this)
theorem to_at (a r : List UInt8) (c : UInt8) (w : World) : (Instr.slice 9 (.string (sOf (a ++ c :: r))) none (some (.int .i64 (a.length : Int))) none).run Tryd.prog w = .ok (.string (sOf a)) w := by
  rw [sl_to _ a.length _ rfl (by rw [sOf_size, List.length_append]; omega), ex_first]
theorem from_at (a r : List UInt8) (c : UInt8) (w : World) : (Instr.slice 9 (.string (sOf (a ++ c :: r))) (some (.int .i64 ((a.length : Int) + 1))) none none).run Tryd.prog w = .ok (.string (sOf r)) w := by
  rw [sl_from _ (a.length + 1) _ (by omega) (by rw [sOf_size, List.length_append, List.length_cons]; omega), ex_last]
end Go.Proofs.YtlkaofhdllkgfaaDoor
