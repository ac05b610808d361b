/- Rows of some cells each. Conditions: none. -/
import Derived.Test.YtmdmccjmmljbkaaGreatMem
namespace Go.Proofs.YtmdmccjmmljbkaaGreat
open Go.RowKit Go.Lib
set_option linter.unusedVariables false
theorem flatK {α : Type} {K : Nat} (f : α → List Value) (hf : ∀ a, (f a).length = K) {rs : List α} {k : Nat} {r : α} (h : rs[k]? = some r) (j : Nat) (hj : j < K) : (rs.map f).flatten[K * k + j]? = (f r)[j]? := by
  induction rs generalizing k with
  | nil => simp at h
  | cons x t ih =>
    rw [List.map_cons, List.flatten_cons]
    rcases k with _ | k
    · simp only [List.getElem?_cons_zero, Option.some.injEq] at h
      subst h
      rw [Nat.mul_zero, Nat.zero_add, List.getElem?_append_left (by rw [hf]; omega)]
    · simp only [List.getElem?_cons_succ] at h
      rw [List.getElem?_append_right (by rw [hf, Nat.mul_succ]; omega), ← ih h]
      congr 1
      rw [hf, Nat.mul_succ]; omega
theorem rowsK {α : Type} {K : Nat} (f : α → List Value) (hf : ∀ a, (f a).length = K) {w : World} {U : Option Addr} {n k : Nat} {rs : List α} {r : α} (hl : rs.length = n) (h : Rd w K U n (rs.map f).flatten) (hk : rs[k]? = some r) : ∃ ad, U = some ad ∧ ad.block < w.heap.size ∧ ∀ j (u : Value), (f r)[j]? = some u → w.cell? ((ad.add (k * K)).add j) = some u := by
  have hlt : k < n := by rw [← hl]; exact (List.getElem?_eq_some_iff.1 hk).1
  obtain ⟨ad, hA, hb, hc⟩ := h.2 (by omega)
  refine ⟨ad, hA, hb, fun j u hu => ?_⟩
  rw [add_add', Nat.mul_comm k K]
  refine hc _ u ?_
  rw [flatK f hf hk j (by have := (List.getElem?_eq_some_iff.1 hu).1; rw [hf] at this; exact this)]
  exact hu
theorem flatK_len {α : Type} {K : Nat} (f : α → List Value) (hf : ∀ a, (f a).length = K) (rs : List α) : (rs.map f).flatten.length = rs.length * K := by
  induction rs with
  | nil => simp
  | cons x t ih => rw [List.map_cons, List.flatten_cons, List.length_append, ih, hf, List.length_cons, Nat.succ_mul]; omega
abbrev W2 := Nat × Nat
def wc2 (x : W2) : List Value := [.int .u64 ((x.1 : Nat) : Int), .int .u64 ((x.2 : Nat) : Int)]
theorem wc2_len (x : W2) : (wc2 x).length = 2 := rfl
abbrev W4 := Nat × Nat × Nat × Nat
def wc4 (x : W4) : List Value := [.int .u64 ((x.1 : Nat) : Int), .int .u64 ((x.2.1 : Nat) : Int), .int .u64 ((x.2.2.1 : Nat) : Int), .int .u64 ((x.2.2.2 : Nat) : Int)]
theorem wc4_len (x : W4) : (wc4 x).length = 4 := rfl
/-- Each of four words fits. -/
def W4Ok (q : W4) : Prop := q.1 < 18446744073709551616 ∧ q.2.1 < 18446744073709551616 ∧ q.2.2.1 < 18446744073709551616 ∧ q.2.2.2 < 18446744073709551616
/-- A row of fours of words. -/
def RowsW (w : World) (U : Option Addr) (n : Nat) (rs : List W4) : Prop := rs.length = n ∧ Rd w 4 U n (rs.map wc4).flatten
theorem RowsW.keeps {w w' : World} {U : Option Addr} {n : Nat} {rs : List W4} (h : RowsW w U n rs) (K : Keeps (fun _ => False) w w') : RowsW w' U n rs := ⟨h.1, h.2.keeps K (fun _ _ h => h)⟩
theorem RowsW.at' {w : World} {U : Option Addr} {n k : Nat} {rs : List W4} {r : W4} (h : RowsW w U n rs) (hk : rs[k]? = some r) : ∃ ad, U = some ad ∧ ad.block < w.heap.size ∧ ∀ j (u : Value), (wc4 r)[j]? = some u → w.cell? ((ad.add (k * 4)).add j) = some u := rowsK wc4 wc4_len h.1 h.2 hk
end Go.Proofs.YtmdmccjmmljbkaaGreat
