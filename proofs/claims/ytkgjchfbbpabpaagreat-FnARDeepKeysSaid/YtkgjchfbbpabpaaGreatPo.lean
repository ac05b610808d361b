/- An argument [][]Pair as lists. Conditions: what was read as data. -/
import Derived.Test.YtkgjchfbbpabpaaGreatPair
namespace Go.Proofs.YtkgjchfbbpabpaaGreat
open Go.RowKit Go.Deep Go.Lib
set_option linter.unusedVariables false
section
variable {H : Type} {enc : TypeId × Value → H} {P : Program} {w : World} {base : Nat} {held : Bool}
theorem prs_of_trod {t e q : TypeId} {f0 f1 : Field} {fuel : Nat} {cs : List Value} {x : DataW H × List MemPlace} (ht : P.underlying t = some (.slice e)) (he : P.underlying e = some (.struct #[f0, f1])) (h0 : f0.type = q ∧ f0.offset = 0) (h1 : f1.type = q ∧ f1.offset = 1) (hq : P.underlying q = some .string) (ce : P.cellsOf e = 2) (cq : P.cellsOf q = 1)
    (h : DataW.trod enc P w base (fun _ => true) held fuel t cs = some x) :
    ∃ (A : Option Addr) (n c : Nat) (L : List Pr), cs = [.slice A n c] ∧ n ≤ c ∧ c ≤ maxLen ∧ L.length = n ∧ Rd w 2 A n (prC L) := by
  rcases open_slice ht h with ⟨rfl, _⟩ | ⟨a, len, cap, m, n, D, Pl, rfl, hb, hl, hm, hmm, _, hx⟩
  · exact ⟨none, 0, 0, [], rfl, Nat.le_refl _, Nat.zero_le _, rfl, Rd.none'⟩
  · simp only [if_true] at hmm
    subst hmm
    rw [ce] at hx
    have hs : ∀ i, i < len → ∃ p : Pr, w.cell? (a.add (i * 2)) = some (.string p.1) ∧ w.cell? (a.add (i * 2 + 1)) = some (.string p.2) := fun i hi => by
      obtain ⟨cs', c1, c2⟩ := hx i (by omega)
      obtain ⟨_, hlen, hcell⟩ := World.cells?_some c1
      obtain ⟨y0, y1, n2, _, _, g0, g1⟩ := Go.ChangeShapes.trod_struct2 he c2
      match cs', hlen with
      | [u, v], _ =>
        rw [h0.1, h0.2, cq] at g0
        rw [h1.1, h1.2, cq] at g1
        obtain ⟨s0, e0, _, _⟩ := DataW.trod_string hq g0
        obtain ⟨s1, e1, _, _⟩ := DataW.trod_string hq g1
        simp at e0 e1
        have k0 := hcell 0 (by decide)
        have k1 := hcell 1 (by decide)
        rw [Addr.add_add] at k0 k1
        exact ⟨(s0, s1), by simpa [e0] using k0, by simpa [e1] using k1⟩
    obtain ⟨Y, hY⟩ := choose_lt (α := Pr) (p := fun i p => w.cell? (a.add (i * 2)) = some (.string p.1) ∧ w.cell? (a.add (i * 2 + 1)) = some (.string p.2)) hs
    have hget : ∀ i, i < len → ((List.range len).map Y)[i]? = some (Y i) := fun i hi => by rw [List.getElem?_map, List.getElem?_range hi]; rfl
    refine ⟨some a, len, m, (List.range len).map Y, rfl, hl, hm, by simp, by rw [prC_length]; simp, fun hn => ⟨a, rfl, ?_, fun j u hu => ?_⟩⟩
    · have := cell_in' (hY 0 hn).1
      rwa [blk_add] at this
    · have hj : j < len * 2 := by
        have := (List.getElem?_eq_some_iff.1 hu).1
        rw [prC_length] at this
        simpa using this
      have hi : j / 2 < len := by omega
      obtain ⟨g0, g1⟩ := prC_get _ (j / 2) _ (hget (j / 2) hi)
      rcases Nat.mod_two_eq_zero_or_one j with hz | hz
      · have e : j = j / 2 * 2 := by omega
        rw [e] at hu ⊢
        rw [g0] at hu
        injection hu with hu
        rw [← hu]
        exact (hY _ hi).1
      · have e : j = j / 2 * 2 + 1 := by omega
        rw [e] at hu ⊢
        rw [g1] at hu
        injection hu with hu
        rw [← hu]
        exact (hY _ hi).2
theorem prows_of_trod {t s e q : TypeId} {f0 f1 : Field} {fuel : Nat} {cs : List Value} {x : DataW H × List MemPlace} (ht : P.underlying t = some (.slice s)) (hs' : P.underlying s = some (.slice e)) (he : P.underlying e = some (.struct #[f0, f1])) (h0 : f0.type = q ∧ f0.offset = 0) (h1 : f1.type = q ∧ f1.offset = 1) (hq : P.underlying q = some .string) (cs1 : P.cellsOf s = 1) (ce : P.cellsOf e = 2) (cq : P.cellsOf q = 1)
    (h : DataW.trod enc P w base (fun _ => true) held fuel t cs = some x) :
    ∃ (A : Option Addr) (n c : Nat) (PP : List (List Pr)), cs = [.slice A n c] ∧ n ≤ c ∧ c ≤ maxLen ∧ PP.length = n ∧ RowsP w A PP ∧ ∀ X ∈ PP, X.length ≤ maxLen := by
  rcases open_slice1 ht cs1 h with ⟨rfl, _⟩ | ⟨a, len, cap, m, n, V, D, Pl, rfl, hb, hl, hm, hmm, _, hx⟩
  · exact ⟨none, 0, 0, [], rfl, Nat.le_refl _, Nat.zero_le _, rfl, fun i L hL => by simp at hL, fun X hX => by simp at hX⟩
  · simp only [if_true] at hmm
    subst hmm
    have hs : ∀ i, i < len → ∃ y : Option Addr × Nat × List Pr, w.cell? (a.add i) = some (.slice y.1 y.2.2.length y.2.1) ∧ Rd w 2 y.1 y.2.2.length (prC y.2.2) ∧ y.2.2.length ≤ maxLen := fun i hi => by
      obtain ⟨g1, g2⟩ := hx i (by omega)
      obtain ⟨A, k, c, L, e1, hkc, hcm, hk, hr⟩ := prs_of_trod hs' he h0 h1 hq ce cq g2
      injection e1 with e1 _
      exact ⟨(A, c, L), by rw [g1, e1, hk], by rw [hk]; exact hr, by rw [hk]; exact Nat.le_trans hkc hcm⟩
    obtain ⟨Y, hY⟩ := choose_lt (α := Option Addr × Nat × List Pr) (p := fun i y => w.cell? (a.add i) = some (.slice y.1 y.2.2.length y.2.1) ∧ Rd w 2 y.1 y.2.2.length (prC y.2.2) ∧ y.2.2.length ≤ maxLen) hs
    refine ⟨some a, len, m, (List.range len).map fun i => (Y i).2.2, rfl, hl, hm, by simp, fun j L hL => ?_, fun X hX => ?_⟩
    · rw [List.getElem?_map] at hL
      rcases Nat.lt_or_ge j len with hj | hj
      · rw [List.getElem?_range hj] at hL
        injection hL with hL
        obtain ⟨g1, g2, _⟩ := hY j hj
        subst hL
        have := cell_in' g1
        rw [blk_add] at this
        exact ⟨a, (Y j).1, (Y j).2.1, rfl, this, g1, g2⟩
      · rw [List.getElem?_eq_none (by simpa using hj)] at hL
        cases hL
    · obtain ⟨i, hi, rfl⟩ := List.mem_map.1 hX
      exact (hY i (List.mem_range.1 hi)).2.2
end
end Go.Proofs.YtkgjchfbbpabpaaGreat
