/- What an argument that is a slice of arrays of four words reads as. Conditions: none beyond its being an argument. -/
import Derived.Test.YtmdmccjmmljbkaaGreatW4
import Derived.Deep.Slices
import Derived.ChangeSlices
import Derived.ChangeShapes
import Derived.WideShapes
import Derived.OpenShut
namespace Go.Proofs.YtmdmccjmmljbkaaGreat
open Go.RowKit Go.Deep Go.Lib Go.ChangeShapes
set_option linter.unusedVariables false
/-- The four words that lie at a place. -/
def W4At (w : World) (a : Addr) (q : W4) : Prop := w.cell? (a.add 0) = some (.int .u64 (q.1 : Int)) ∧ w.cell? (a.add 1) = some (.int .u64 (q.2.1 : Int)) ∧ w.cell? (a.add 2) = some (.int .u64 (q.2.2.1 : Int)) ∧ w.cell? (a.add 3) = some (.int .u64 (q.2.2.2 : Int)) ∧ W4Ok q
theorem lit_u64 {x : Int} (h : (Lit.int .u64 x).wf = true) : ∃ n : Nat, (n : Int) = x ∧ n < 18446744073709551616 := by
  have hmin : IntKind.u64.min = 0 := by decide
  have hmax : IntKind.u64.max = 18446744073709551615 := by decide
  simp [Lit.wf] at h
  exact ⟨x.toNat, by omega, by omega⟩
theorem w4_of_trod {H : Type} {enc : TypeId × Value → H} {P : Program} {w : World} {base : Nat} {held : Bool} {fuel : Nat} {cs : List Value} {a : Addr} {e u : TypeId} {x : DataW H × List MemPlace} (he : P.underlying e = some (.array 4 u)) (hu : P.underlying u = some (.int .u64)) (hc4 : P.cellsOf e = 4) (hc1 : P.cellsOf u = 1) (hc : w.cells? base a 4 = some cs)
    (h : DataW.trod enc P w base (fun _ => true) held fuel e cs = some x) : ∃ q : W4, W4At w a q := by
  obtain ⟨_, hlen, hcell⟩ := World.cells?_some hc
  match cs, hlen with
  | [c0, c1, c2, c3], _ =>
    obtain ⟨xs, m, _, _, _, hl, hf⟩ := DataW.trod_array he h
    match xs, hl with
    | [y0, y1, y2, y3], _ =>
      have g0 := hf 0 (by omega)
      have g1 := hf 1 (by omega)
      have g2 := hf 2 (by omega)
      have g3 := hf 3 (by omega)
      simp [hc1] at g0 g1 g2 g3
      obtain ⟨x0, e0, _, u0⟩ := DataW.trod_int hu g0
      obtain ⟨x1, e1, _, u1⟩ := DataW.trod_int hu g1
      obtain ⟨x2, e2, _, u2⟩ := DataW.trod_int hu g2
      obtain ⟨x3, e3, _, u3⟩ := DataW.trod_int hu g3
      have h0 := hcell 0 (by decide)
      have h1 := hcell 1 (by decide)
      have h2 := hcell 2 (by decide)
      have h3 := hcell 3 (by decide)
      simp at e0 e1 e2 e3
      obtain ⟨n0, rfl, b0⟩ := lit_u64 u0
      obtain ⟨n1, rfl, b1⟩ := lit_u64 u1
      obtain ⟨n2, rfl, b2⟩ := lit_u64 u2
      obtain ⟨n3, rfl, b3⟩ := lit_u64 u3
      exact ⟨(n0, n1, n2, n3), by simpa [e0] using h0, by simpa [e1] using h1, by simpa [e2] using h2, by simpa [e3] using h3, b0, b1, b2, b3⟩
theorem w4s_of_trod {H : Type} {enc : TypeId × Value → H} {P : Program} {w : World} {base : Nat} {held : Bool} {fuel : Nat} {cs : List Value} {t e u : TypeId} {x : DataW H × List MemPlace} (ht : P.underlying t = some (.slice e)) (he : P.underlying e = some (.array 4 u)) (hu : P.underlying u = some (.int .u64)) (hc4 : P.cellsOf e = 4) (hc1 : P.cellsOf u = 1)
    (h : DataW.trod enc P w base (fun _ => true) held fuel t cs = some x) :
    ∃ (A : Option Addr) (n c : Nat) (L : List W4), cs = [.slice A n c] ∧ n ≤ c ∧ c ≤ maxLen ∧ RowsW w A n L ∧ ∀ q ∈ L, W4Ok q := by
  rcases open_slice ht h with ⟨rfl, _⟩ | ⟨a, len, cap, m, n, D, Pl, rfl, hb, hl, hm, hmm, _, hx⟩
  · exact ⟨none, 0, 0, [], rfl, Nat.le_refl _, Nat.zero_le _, ⟨rfl, Rd.none'⟩, fun a h => by cases h⟩
  · simp only [if_true] at hmm
    subst hmm
    rw [hc4] at hx
    have hs : ∀ i, i < len → ∃ p : W4, W4At w (a.add (i * 4)) p := fun i hi => by
      obtain ⟨cs', c1, c2⟩ := hx i (by omega)
      exact w4_of_trod he hu hc4 hc1 c1 c2
    obtain ⟨Y, hY⟩ := choose_lt (α := W4) (p := fun i p => W4At w (a.add (i * 4)) p) hs
    have hget : ∀ i, i < len → ((List.range len).map Y)[i]? = some (Y i) := fun i hi => by rw [List.getElem?_map, List.getElem?_range hi]; rfl
    have hmem : ∀ p ∈ (List.range len).map Y, ∃ i, i < len ∧ p = Y i := fun p hp => by
      obtain ⟨i, hi, rfl⟩ := List.mem_map.mp hp
      exact ⟨i, List.mem_range.mp hi, rfl⟩
    have hfl : (((List.range len).map Y).map wc4).flatten.length = len * 4 := by
      rw [flatK_len wc4 wc4_len]; simp
    refine ⟨some a, len, m, (List.range len).map Y, rfl, hl, hm, ⟨by simp, ⟨hfl, fun hn => ⟨a, rfl, ?_, fun j u hu => ?_⟩⟩⟩, fun p hp => ?_⟩
    · have := World.block_lt_of_cell? w _ (hY 0 hn).1
      rwa [blk_add, blk_add] at this
    · have hj : j < len * 4 := by
        have := (List.getElem?_eq_some_iff.1 hu).1
        rwa [hfl] at this
      have hi : j / 4 < len := by omega
      have hr : j % 4 < 4 := Nat.mod_lt _ (by omega)
      have he : j = 4 * (j / 4) + j % 4 := by omega
      rw [he, flatK wc4 wc4_len (hget (j / 4) hi) (j % 4) hr] at hu
      rw [show a.add j = (a.add (j / 4 * 4)).add (j % 4) by rw [add_add']; congr 1; omega]
      obtain ⟨q0, q1, q2, q3, _⟩ := hY (j / 4) hi
      have h4 : j % 4 = 0 ∨ j % 4 = 1 ∨ j % 4 = 2 ∨ j % 4 = 3 := by omega
      rcases h4 with h4 | h4 | h4 | h4 <;> rw [h4] at hu ⊢ <;> simp [wc4] at hu <;> subst hu
      · exact q0
      · exact q1
      · exact q2
      · exact q3
    · obtain ⟨i, hi, rfl⟩ := hmem p hp
      exact (hY i hi).2.2.2.2
end Go.Proofs.YtmdmccjmmljbkaaGreat
