/- A column of strings in memory: what it holds, what a step may change. No conditions but those that each theorem names. -/
import Derived.Test.YtmdmccjmmljbkaaGreatStr
import Derived.Test.YtmdmccjmmljbkaaGreatProg
namespace Go.Proofs.YtmdmccjmmljbkaaGreat
open Go.RowKit Go.Lib

/-- The positions of texts that stand one behind the other, from s on. -/
def posCells : Nat → List (List UInt8) → List Value
  | _, [] => []
  | s, l :: r => .int .i64 (s : Int) :: .int .i64 ((s + l.length : Nat) : Int) :: posCells (s + l.length) r
theorem posCells_length : ∀ (s : Nat) (L : List (List UInt8)), (posCells s L).length = L.length * 2
  | _, [] => rfl
  | s, l :: r => by rw [posCells, List.length_cons, List.length_cons, posCells_length, List.length_cons]; omega
theorem posCells_snoc : ∀ (s : Nat) (L : List (List UInt8)) (l : List UInt8), posCells s (L ++ [l]) = posCells s L ++ [.int .i64 ((s + L.flatten.length : Nat) : Int), .int .i64 ((s + L.flatten.length + l.length : Nat) : Int)]
  | s, [], l => by simp [posCells]
  | s, a :: r, l => by
    rw [List.cons_append, posCells, posCells_snoc, posCells, List.flatten_cons, List.length_append]
    simp [Nat.add_assoc]
theorem posCells_get : ∀ (s : Nat) (L : List (List UInt8)) (i : Nat) (l : List UInt8), L[i]? = some l → (posCells s L)[i * 2]? = some (.int .i64 ((s + (L.take i).flatten.length : Nat) : Int)) ∧ (posCells s L)[i * 2 + 1]? = some (.int .i64 ((s + (L.take i).flatten.length + l.length : Nat) : Int))
  | s, [], i, l, h => by simp at h
  | s, a :: r, 0, l, h => by
    simp at h
    subst h
    simp [posCells]
  | s, a :: r, i + 1, l, h => by
    have h' : r[i]? = some l := by simpa using h
    obtain ⟨h1, h2⟩ := posCells_get (s + a.length) r i l h'
    rw [show (i + 1) * 2 = i * 2 + 1 + 1 by omega, posCells, List.getElem?_cons_succ, List.getElem?_cons_succ, h1, List.getElem?_cons_succ, List.getElem?_cons_succ, h2, List.take_succ_cons, List.flatten_cons, List.length_append]
    exact ⟨by rw [Nat.add_assoc], by rw [Nat.add_assoc s]⟩
theorem posCells_one (s : Nat) (L : List (List UInt8)) : ∀ u ∈ posCells s L, u.oneCell' = true := by
  induction L generalizing s with
  | nil => intro u hu; simp [posCells] at hu
  | cons l r ih =>
    intro u hu
    rw [posCells] at hu
    rcases List.mem_cons.1 hu with rfl | hu
    · rfl
    rcases List.mem_cons.1 hu with rfl | hu
    · rfl
    · exact ih _ u hu

/-- Rows of elements of different types lie in different blocks. -/
theorem own_apart {w : World} {b1 b2 n1 n2 s1 s2 : Nat} {e1 e2 : TypeId} {v1 v2 : Value} {xs1 xs2 : List Value} (h1 : w.ownsRow b1 e1 s1 v1 n1 xs1) (h2 : w.ownsRow b2 e2 s2 v2 n2 xs2) (hne : e1 ≠ e2) : ∀ k, v1.ownBlock = some k → v2.ownBlock ≠ some k := by
  intro k hk hk2
  rcases h1.2 with ⟨rfl, _⟩ | ⟨g, cap, cur, rfl, _, hh, _⟩
  · simp [Value.ownBlock] at hk
  · rcases h2.2 with ⟨rfl, _⟩ | ⟨g', cap', cur', rfl, _, hh', _⟩
    · simp [Value.ownBlock] at hk2
    · have e : g = k := by simpa [Value.ownBlock] using hk
      have e' : g' = k := by simpa [Value.ownBlock] using hk2
      subst e
      subst e'
      rw [hh] at hh'
      injection hh' with hh'
      injection hh' with _ ht
      exact hne ht

end Go.Proofs.YtmdmccjmmljbkaaGreat
