/- What an argument that is a slice of values reads as. Conditions: none beyond its being an argument. -/
import Derived.Test.YthfoleapdmpdfaaDoorRp
import Derived.Deep.Slices
import Derived.ChangeSlices
import Derived.ChangeShapes
import Derived.WideShapes
import Derived.Test.YthfoleapdmpdfaaDoorRow
namespace Go.Proofs.YthfoleapdmpdfaaDoor
open Go.RowKit Go.Deep Go.Lib Go.ChangeShapes
set_option linter.unusedVariables false
theorem cellsOfPrim : Tryd.prog.cellsOf 28 = 4 := by kernel_rfl
theorem cellsOfInt : Tryd.prog.cellsOf 3 = 1 := by kernel_rfl
theorem cellsOfU64 : Tryd.prog.cellsOf 26 = 1 := by kernel_rfl
theorem cellsOfBs : Tryd.prog.cellsOf 22 = 1 := by kernel_rfl
/-- What one value reads as. -/
def AskAt (w : World) (a : Addr) (p : PAsk) : Prop := w.cell? (a.add 0) = some (.int .i64 p.op) ∧ w.cell? (a.add 1) = some (.int .u64 (p.u : Int)) ∧ w.cell? (a.add 2) = some (.int .u64 p.v) ∧ w.cell? (a.add 3) = some (.slice p.A p.s.length p.c) ∧ Rd w 1 p.A p.s.length (Lib.byteCells p.s) ∧ p.s.length ≤ maxLen ∧ p.u < 18446744073709551616 ∧ 0 ≤ p.v ∧ p.v < 18446744073709551616
instance : Inhabited PAsk := ⟨⟨0, 0, 0, [], none, 0⟩⟩
theorem prim_of_trod {H : Type} {enc : TypeId × Value → H} {w : World} {base : Nat} {held : Bool} {fuel : Nat} {cs : List Value} {a : Addr} {x : DataW H × List MemPlace} (hc : w.cells? base a 4 = some cs)
    (h : DataW.trod enc Tryd.prog w base (fun _ => true) held fuel 28 cs = some x) : ∃ p : PAsk, AskAt w a p := by
  obtain ⟨_, hlen, hcell⟩ := World.cells?_some hc
  match cs, hlen with
  | [c0, c1, c2, c3], _ =>
    obtain ⟨xs, m, _, _, _, hl, hf⟩ := DataW.trod_struct Tryd.underlying28 h
    have hl' : xs.length = 4 := hl
    match xs, hl' with
    | [y0, y1, y2, y3], _ =>
      have g0 := hf 0 _ rfl
      have g1 := hf 1 _ rfl
      have g2 := hf 2 _ rfl
      have g3 := hf 3 _ rfl
      simp [cellsOfInt, cellsOfU64, cellsOfBs] at g0 g1 g2 g3
      obtain ⟨x0, e0, _, u0⟩ := DataW.trod_int Tryd.underlying3 g0
      obtain ⟨x1, e1, _, u1⟩ := DataW.trod_int Tryd.underlying26 g1
      obtain ⟨x2, e2, _, u2⟩ := DataW.trod_int Tryd.underlying26 g2
      have h0 := hcell 0 (by decide)
      have h1 := hcell 1 (by decide)
      have h2 := hcell 2 (by decide)
      have h3 := hcell 3 (by decide)
      simp at e0 e1 e2
      have hx1 : (x1.toNat : Int) = x1 := by
        have hmin : IntKind.u64.min = 0 := by decide
        simp [Lit.wf] at u1
        omega
      have hb1 : x1.toNat < 18446744073709551616 := by
        have hmin : IntKind.u64.min = 0 := by decide
        have hmax : IntKind.u64.max = 18446744073709551615 := by decide
        simp [Lit.wf] at u1
        omega
      have hb2 : 0 ≤ x2 ∧ x2 < 18446744073709551616 := by
        have hmin : IntKind.u64.min = 0 := by decide
        have hmax : IntKind.u64.max = 18446744073709551615 := by decide
        simp [Lit.wf] at u2
        omega
      rcases open_ints Tryd.underlying22 Tryd.underlying5 (by kernel_rfl) g3 with ⟨hcs, _⟩ | ⟨ad, l, c, zs, hcs, _, hll, hm, hz, _, hzc, hwz⟩
      · simp at hcs
        exact ⟨⟨x0, x1.toNat, x2, [], none, 0⟩, by simpa [e0] using h0, by rw [hx1]; simpa [e1] using h1, by simpa [e2] using h2, by simpa [hcs] using h3, Rd.none', Nat.zero_le _, hb1, hb2.1, hb2.2⟩
      · simp at hcs
        obtain ⟨bs, hc1, hc2, hc3⟩ := row_bytes w (some ad) l c zs (.inr ⟨ad, rfl, hll, hm, by simpa using hz, hzc, hwz⟩)
        refine ⟨⟨x0, x1.toNat, x2, bs, some ad, c⟩, by simpa [e0] using h0, by rw [hx1]; simpa [e1] using h1, by simpa [e2] using h2, ?_, ?_, ?_, hb1, hb2.1, hb2.2⟩
        · simp only [hc1]
          simpa [hcs] using h3
        · simp only [hc1]
          exact hc2
        · simp only [hc1]
          omega
theorem prims_of_trodV {H : Type} {enc : TypeId × Value → H} {w : World} {base : Nat} {held : Bool} {fuel : Nat} {cs : List Value} {x : DataW H × List MemPlace}
    (h : DataW.trod enc Tryd.prog w base (fun _ => true) held fuel 23 cs = some x) :
    ∃ (A : Option Addr) (n c : Nat) (L : List PAsk), cs = [.slice A n c] ∧ n ≤ c ∧ c ≤ maxLen ∧ AsksAt w A n L ∧ ∀ a ∈ L, a.s.length ≤ maxLen ∧ a.u < 18446744073709551616 ∧ 0 ≤ a.v ∧ a.v < 18446744073709551616 := by
  rcases open_slice Tryd.underlying23 h with ⟨rfl, _⟩ | ⟨a, len, cap, m, n, D, Pl, rfl, hb, hl, hm, hmm, _, hx⟩
  · exact ⟨none, 0, 0, [], rfl, Nat.le_refl _, Nat.zero_le _, ⟨rfl, Rd.none', fun a h => by cases h⟩, fun a h => by cases h⟩
  · simp only [if_true] at hmm
    subst hmm
    rw [cellsOfPrim] at hx
    have hs : ∀ i, i < len → ∃ p : PAsk, AskAt w (a.add (i * 4)) p := fun i hi => by
      obtain ⟨cs', c1, c2⟩ := hx i (by omega)
      exact prim_of_trod c1 c2
    obtain ⟨Y, hY⟩ := choose_lt (α := PAsk) (p := fun i p => AskAt w (a.add (i * 4)) p) hs
    have hget : ∀ i, i < len → ((List.range len).map Y)[i]? = some (Y i) := fun i hi => by rw [List.getElem?_map, List.getElem?_range hi]; rfl
    have hmem : ∀ p ∈ (List.range len).map Y, ∃ i, i < len ∧ p = Y i := fun p hp => by
      obtain ⟨i, hi, rfl⟩ := List.mem_map.mp hp
      exact ⟨i, List.mem_range.mp hi, rfl⟩
    refine ⟨some a, len, m, (List.range len).map Y, rfl, hl, hm, ⟨by simp, ⟨by rw [flat4l askC askC_len]; simp, fun hn => ⟨a, rfl, ?_, fun j u hu => ?_⟩⟩, fun p hp => ?_⟩, fun p hp => ?_⟩
    · have := World.block_lt_of_cell? w _ (hY 0 hn).1
      rwa [blk_add, blk_add] at this
    · have hj : j < len * 4 := by
        have := (List.getElem?_eq_some_iff.1 hu).1
        rw [flat4l askC askC_len] at this
        simpa using this
      have hi : j / 4 < len := by omega
      have hr : j % 4 < 4 := Nat.mod_lt _ (by omega)
      have he : j = 4 * (j / 4) + j % 4 := by omega
      rw [he, flat4g askC askC_len (hget (j / 4) hi) (j % 4) hr] at hu
      rw [show a.add j = (a.add (j / 4 * 4)).add (j % 4) by rw [add_add']; congr 1; omega]
      obtain ⟨q0, q1, q2, q3, _⟩ := hY (j / 4) hi
      have h4 : j % 4 = 0 ∨ j % 4 = 1 ∨ j % 4 = 2 ∨ j % 4 = 3 := by omega
      rcases h4 with h4 | h4 | h4 | h4 <;> rw [h4] at hu ⊢ <;> simp [askC] at hu <;> subst hu
      · exact q0
      · exact q1
      · exact q2
      · exact q3
    · obtain ⟨i, hi, rfl⟩ := hmem p hp
      exact (hY i hi).2.2.2.2.1
    · obtain ⟨i, hi, rfl⟩ := hmem p hp
      exact (hY i hi).2.2.2.2.2
theorem prims_of_trod {H : Type} {enc : TypeId × Value → H} {w : World} {base : Nat} {held : Bool} {fuel : Nat} {cs : List Value} {x : DataW H × List MemPlace}
    (h : DataW.trod enc Tryd.prog w base (fun _ => true) held fuel 23 cs = some x) :
    ∃ (A : Option Addr) (n c : Nat) (L : List PAsk), cs = [.slice A n c] ∧ n ≤ c ∧ c ≤ maxLen ∧ AsksAt w A n L ∧ ∀ a ∈ L, a.s.length ≤ maxLen := by
  obtain ⟨A, n, c, L, h1, h2, h3, h4, h5⟩ := prims_of_trodV h
  exact ⟨A, n, c, L, h1, h2, h3, h4, fun a ha => (h5 a ha).1⟩
theorem okWide_blk {P : Program} {w : World} {r : Reach} {base : Nat} {t e : TypeId} {a : Addr} {len cap : Nat} (ht : P.underlying t = some (.slice e)) (h : Value.okWide P w r base t (.slice (some a) len cap)) : a.block < w.heap.size := by
  simp only [Value.okWide, ht, Cell.okWide, Cell.ok] at h
  obtain ⟨_, _, _, _, row, cells, hs, _⟩ := h
  rcases Nat.lt_or_ge a.block w.heap.size with h | h
  · exact h
  · simp [World.shape?, Array.getElem?_eq_none h] at hs
end Go.Proofs.YthfoleapdmpdfaaDoor
