/- Columns whose rows are of K cells: their block, their row. Conditions: none. -/
import Derived.Test.YtmdmccjmmljbkaaGreatMem
import Derived.Laws.OwnMore
namespace Go.Proofs.YtmdmccjmmljbkaaGreat
open Go.RowKit Go.Lib
set_option linter.unusedVariables false
/-- A column of numbers of K cells: its block, its row. -/
structure WAt (T E : TypeId) (K : Nat) (w : World) (base g : Nat) (A : Option Addr) (n c : Nat) (vs : List Value) : Prop where
  blk : Whole w g T #[.slice A n c]
  own : w.ownsRow base E K (.slice A n c) n vs
  lo : base ≤ g
theorem WAt.new {T E : TypeId} {K : Nat} {w w' : World} {base g : Nat} {A : Option Addr} {n c : Nat} {vs : List Value} (h : WAt T E K w base g A n c vs) (k : Keeps (fun _ => False) w w') : WAt T E K w' base g A n c vs := ⟨h.blk.keeps k (fun h => h), own_keeps h.own k (fun _ _ h => h), h.lo⟩
/-- What Append answers. -/
def WRes (T E : TypeId) (K : Nat) (w : World) (base g : Nat) (A : Option Addr) (n : Nat) (vs : List Value) (e : Ending) (w' : World) : Prop := ∃ A' c', e = .returned (.tuple #[]) ∧ WAt T E K w' base g A' n c' vs ∧ Keeps (fun k => k = g ∨ ob A = some k) w w' ∧ (ob A' = ob A ∨ ∀ k, ob A' = some k → w.heap.size ≤ k)
theorem rdW {w : World} {t : TypeId} {K : Nat} {vs : List Value} (hv : vs.length = K) : Rd (w.alloc (.cells vs.toArray t)) K (some ⟨w.heap.size, 0, none⟩) 1 vs :=
  ⟨by omega, fun _ => ⟨_, rfl, by simp, fun j u hu => by rw [add_lit', Nat.zero_add, (Whole.new w t vs.toArray).cell j]; simpa using hu⟩⟩
end Go.Proofs.YtmdmccjmmljbkaaGreat
