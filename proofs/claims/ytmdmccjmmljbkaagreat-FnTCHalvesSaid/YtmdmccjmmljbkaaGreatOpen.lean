/- Slices of strings, and slices of these, that came in, as lists. Conditions: what was read as data. -/
import Derived.Test.YtmdmccjmmljbkaaGreatMem
import Derived.Deep.Slices
import Derived.ChangeSame
import Derived.ChangeArms
import Derived.OpenShut
namespace Go.Proofs.YtmdmccjmmljbkaaGreat
open Go.RowKit Go.Deep

theorem cell_in' {w : World} {p : Addr} {v : Value} (h : w.cell? p = some v) : p.block < w.heap.size := by
  rcases Nat.lt_or_ge p.block w.heap.size with h' | h'
  · exact h'
  · simp [World.cell?, Array.getElem?_eq_none h'] at h
/-- A slice that reads as rows of these cells (one cell an element). -/
def RowsV (w : World) (A : Option Addr) (R : List (List Value)) : Prop := ∀ (i : Nat) (xs : List Value), R[i]? = some xs → ∃ (ad : Addr) (B : Option Addr) (d : Nat), A = some ad ∧ ad.block < w.heap.size ∧ w.cell? (ad.add i) = some (.slice B xs.length d) ∧ Rd w 1 B xs.length xs
theorem RowsV.keeps {w w' : World} {A : Option Addr} {R : List (List Value)} (h : RowsV w A R) (hk : Keeps (fun _ => False) w w') : RowsV w' A R := fun i L hL => by
  obtain ⟨ad, B, d, e, hl, hc, hr⟩ := h i L hL
  exact ⟨ad, B, d, e, Nat.lt_of_lt_of_le hl hk.size, (hk.cell (by rw [blk_add]; exact hl) (fun h => h)).trans hc, hr.keeps hk (fun _ _ h => h)⟩
/-- While such a row is made: VS are the cells of the outer row so far. -/
def RB (w : World) (A : Option Addr) (VS : List Value) (R : List (List Value)) : Prop := VS.length = R.length ∧ ∀ (i : Nat) (xs : List Value), R[i]? = some xs → ∃ (B : Option Addr) (d : Nat), VS[i]? = some (.slice B xs.length d) ∧ Rd w 1 B xs.length xs ∧ ∀ q, ob B = some q → q < w.heap.size ∧ ob A ≠ some q
theorem RB.nil (w : World) (A : Option Addr) : RB w A [] [] := ⟨rfl, fun i xs h => by simp at h⟩
theorem RB.keeps {w w' : World} {A : Option Addr} {VS : List Value} {R : List (List Value)} (h : RB w A VS R) (hk : Keeps (fun _ => False) w w') : RB w' A VS R := ⟨h.1, fun i xs hx => by
  obtain ⟨B, d, h1, h2, h3⟩ := h.2 i xs hx
  exact ⟨B, d, h1, h2.keeps hk (fun _ _ h => h), fun q hq => ⟨Nat.lt_of_lt_of_le (h3 q hq).1 hk.size, (h3 q hq).2⟩⟩⟩
theorem RB.snoc {w w' : World} {A A' B : Option Addr} {VS : List Value} {R : List (List Value)} {xs : List Value} {d : Nat} (h : RB w A VS R) (hR : Rd w 1 B xs.length xs) (hB : ∀ q, ob B = some q → q < w.heap.size ∧ ob A ≠ some q)
    (hg : w.grownBy w' (ob A)) (hat : ob A' = ob A ∨ ob A' = some w.heap.size) : RB w' A' (VS ++ [.slice B xs.length d]) (R ++ [xs]) := by
  have hk : Keeps (fun i => ob A = some i) w w' := (Keeps.refl _ w).grown hg (fun k hk => .inl hk)
  have fin : ∀ (B : Option Addr), (∀ q, ob B = some q → q < w.heap.size ∧ ob A ≠ some q) → ∀ q, ob B = some q → q < w'.heap.size ∧ ob A' ≠ some q := fun B hB q hq => by
    obtain ⟨h1, h2⟩ := hB q hq
    refine ⟨Nat.lt_of_lt_of_le h1 hk.size, ?_⟩
    rcases hat with e | e
    · rw [e]; exact h2
    · rw [e]
      intro e2
      injection e2 with e2
      omega
  refine ⟨by simp [h.1], fun i ys hy => ?_⟩
  rcases Nat.lt_or_ge i R.length with hi | hi
  · rw [List.getElem?_append_left hi] at hy
    obtain ⟨B', d', h1, h2, h3⟩ := h.2 i ys hy
    exact ⟨B', d', by rw [List.getElem?_append_left (by rw [h.1]; exact hi)]; exact h1, h2.keeps hk (fun k hk2 hk3 => (h3 k hk2).2 hk3), fin B' h3⟩
  · rw [List.getElem?_append_right hi] at hy
    have hi0 : i - R.length = 0 := by
      rcases Nat.eq_zero_or_pos (i - R.length) with h0 | h0
      · exact h0
      · rw [List.getElem?_eq_none (by simp; omega)] at hy; cases hy
    rw [hi0] at hy
    injection hy with hy
    subst hy
    refine ⟨B, d, ?_, hR.keeps hk (fun k hk2 hk3 => (hB k hk2).2 hk3), fin B hB⟩
    rw [List.getElem?_append_right (by rw [h.1]; exact hi), h.1, hi0]
    rfl
theorem RB.rows {w : World} {base n c : Nat} {e : TypeId} {A : Option Addr} {VS : List Value} {R : List (List Value)} (h : RB w A VS R) (hown : w.ownsRow base e 1 (.slice A n c) n VS) : RowsV w A R := fun i xs hx => by
  obtain ⟨B, d, h1, h2, _⟩ := h.2 i xs hx
  have hn : 0 < n := by
    have h1' := hown.1
    have := (List.getElem?_eq_some_iff.1 h1).1
    omega
  obtain ⟨ad, e, hb, hc⟩ := (Rd.own hown).2 hn
  exact ⟨ad, B, d, e, hb, hc i _ h1, h2⟩
/-- A slice that reads as rows of strings. -/
def RowsOf (w : World) (A : Option Addr) (LL : List (List ByteArray)) : Prop := RowsV w A (LL.map fun L => L.map Value.string)
theorem RowsOf.keeps {w w' : World} {A : Option Addr} {LL : List (List ByteArray)} (h : RowsOf w A LL) (hk : Keeps (fun _ => False) w w') : RowsOf w' A LL := RowsV.keeps h hk
theorem RowsOf.at' {w : World} {A : Option Addr} {LL : List (List ByteArray)} (h : RowsOf w A LL) {i : Nat} {L : List ByteArray} (hL : LL[i]? = some L) : ∃ (ad : Addr) (B : Option Addr) (d : Nat), A = some ad ∧ ad.block < w.heap.size ∧ w.cell? (ad.add i) = some (.slice B L.length d) ∧ Rd w 1 B L.length (L.map Value.string) := by
  obtain ⟨ad, B, d, h1, h2, h3, h4⟩ := h i (L.map Value.string) (by rw [List.getElem?_map, hL]; rfl)
  rw [List.length_map] at h3 h4
  exact ⟨ad, B, d, h1, h2, h3, h4⟩

def strOf : Value → ByteArray
  | .string s => s
  | _ => ⟨#[]⟩
section
variable {H : Type} {enc : TypeId × Value → H} {P : Program} {w : World} {base : Nat} {held : Bool}
theorem strs_of_trod {t q : TypeId} {fuel : Nat} {cs : List Value} {x : DataW H × List MemPlace} (ht : P.underlying t = some (.slice q)) (hq : P.underlying q = some .string) (cq : P.cellsOf q = 1)
    (h : DataW.trod enc P w base (fun _ => true) held fuel t cs = some x) :
    ∃ (A : Option Addr) (n c : Nat) (xs : List ByteArray), cs = [.slice A n c] ∧ n ≤ c ∧ c ≤ maxLen ∧ xs.length = n ∧ Rd w 1 A n (xs.map Value.string) := by
  rcases open_slice1 ht cq h with ⟨rfl, _⟩ | ⟨a, len, cap, m, n, V, D, Pl, rfl, hb, hl, hm, hmm, _, hx⟩
  · exact ⟨none, 0, 0, [], rfl, Nat.le_refl _, Nat.zero_le _, rfl, Rd.none'⟩
  · simp only [if_true] at hmm
    subst hmm
    have hs : ∀ i, i < len → w.cell? (a.add i) = some (.string (strOf (V i))) := fun i hi => by
      obtain ⟨h1, h2⟩ := hx i (by omega)
      obtain ⟨s, e, _, _⟩ := DataW.trod_string hq h2
      injection e with e _
      rw [h1, e]
      rfl
    refine ⟨some a, len, m, (List.range len).map fun i => strOf (V i), rfl, hl, hm, by simp, by simp, fun hn => ⟨a, rfl, ?_, fun j u hu => ?_⟩⟩
    · have := cell_in' (hs 0 hn)
      rwa [blk_add] at this
    · rw [List.map_map, List.getElem?_map] at hu
      rcases Nat.lt_or_ge j len with hj | hj
      · rw [List.getElem?_range hj] at hu
        injection hu with hu
        rw [hs j hj, ← hu]
        rfl
      · rw [List.getElem?_eq_none (by simpa using hj)] at hu
        cases hu
theorem rows_of_trod {t e q : TypeId} {fuel : Nat} {cs : List Value} {x : DataW H × List MemPlace} (ht : P.underlying t = some (.slice e)) (he : P.underlying e = some (.slice q)) (hq : P.underlying q = some .string) (ce : P.cellsOf e = 1) (cq : P.cellsOf q = 1)
    (h : DataW.trod enc P w base (fun _ => true) held fuel t cs = some x) :
    ∃ (A : Option Addr) (n c : Nat) (LL : List (List ByteArray)), cs = [.slice A n c] ∧ n ≤ c ∧ c ≤ maxLen ∧ LL.length = n ∧ RowsOf w A LL ∧ ∀ X ∈ LL, X.length ≤ maxLen := by
  rcases open_slice1 ht ce h with ⟨rfl, _⟩ | ⟨a, len, cap, m, n, V, D, Pl, rfl, hb, hl, hm, hmm, _, hx⟩
  · exact ⟨none, 0, 0, [], rfl, Nat.le_refl _, Nat.zero_le _, rfl, fun i L hL => by simp at hL, fun X hX => by simp at hX⟩
  · simp only [if_true] at hmm
    subst hmm
    have hs : ∀ i, i < len → ∃ y : Option Addr × Nat × List ByteArray, w.cell? (a.add i) = some (.slice y.1 y.2.2.length y.2.1) ∧ Rd w 1 y.1 y.2.2.length (y.2.2.map Value.string) ∧ y.2.2.length ≤ maxLen := fun i hi => by
      obtain ⟨h1, h2⟩ := hx i (by omega)
      obtain ⟨A, k, c, xs, e1, hkc, hcm, hk, hr⟩ := strs_of_trod he hq cq h2
      injection e1 with e1 _
      exact ⟨(A, c, xs), by rw [h1, e1, hk], by rw [hk]; exact hr, by rw [hk]; exact Nat.le_trans hkc hcm⟩
    obtain ⟨Y, hY⟩ := choose_lt (α := Option Addr × Nat × List ByteArray) (p := fun i y => w.cell? (a.add i) = some (.slice y.1 y.2.2.length y.2.1) ∧ Rd w 1 y.1 y.2.2.length (y.2.2.map Value.string) ∧ y.2.2.length ≤ maxLen) hs
    refine ⟨some a, len, m, (List.range len).map fun i => (Y i).2.2, rfl, hl, hm, by simp, fun j L hL => ?_, fun X hX => ?_⟩
    · rw [List.map_map, List.getElem?_map] at hL
      rcases Nat.lt_or_ge j len with hj | hj
      · rw [List.getElem?_range hj] at hL
        injection hL with hL
        obtain ⟨h1, h2, _⟩ := hY j hj
        subst hL
        have := cell_in' h1
        rw [blk_add] at this
        exact ⟨a, (Y j).1, (Y j).2.1, rfl, this, by simpa using h1, by simpa using h2⟩
      · rw [List.getElem?_eq_none (by simpa using hj)] at hL
        cases hL
    · obtain ⟨i, hi, rfl⟩ := List.mem_map.1 hX
      exact (hY i (List.mem_range.1 hi)).2.2
end
end Go.Proofs.YtmdmccjmmljbkaaGreat
