/- Small forms of the reader's contracts: a varint of one byte, a truth value, and that other blocks lie apart. Conditions as in the text of the reader. -/
import Derived.Test.YthfoleapdmpdfaaDoorRd3
namespace Go.Proofs.YthfoleapdmpdfaaDoor
open Go.RowKit
theorem uv_small (w : World) (base rb bb : Nat) (D R : Option Nat) (b : UInt8) (l : List UInt8) (hb : b.toNat < 128) (hR : RdrOn w base rb bb D R (b :: l)) :
    Calls Tryd.prog 80 #[.pointer (some ⟨rb, 0, none⟩)] w fun e w' => e = .returned (.tuple #[.int .u64 b.toNat, .nilIface]) ∧ RdrGo w w' base rb bb D R l := by
  have hg : uvGo 10 0 0 (b :: l) = some (b.toNat, l) := by
    have := uvGo_last (i := 0) (acc := 0) (b := b) (l := l) rfl (by omega) hb (by omega)
    simpa using this
  refine (uvarint_any w base rb bb D R (b :: l) hR).mono ?_
  rintro e w' (⟨x, m, h1, rfl, h2⟩ | ⟨v, m, h1, _⟩)
  · rw [hg] at h1
    injection h1 with h1
    injection h1 with h3 h4
    subst h3 h4
    exact ⟨rfl, h2⟩
  · rw [hg] at h1; cases h1
theorem uv_none (w : World) (base rb bb : Nat) (D R : Option Nat) (hR : RdrOn w base rb bb D R []) :
    Calls Tryd.prog 80 #[.pointer (some ⟨rb, 0, none⟩)] w fun e w' => ∃ v, e = .returned (.tuple #[.int .u64 0, v]) ∧ IsErr v ∧ ∃ m, RdrGo w w' base rb bb D R m := by
  refine (uvarint_any w base rb bb D R [] hR).mono ?_
  rintro e w' (⟨x, m, h1, rfl, h2⟩ | ⟨v, m, h1, h2, h3, h4⟩)
  · rw [uvGo_nil (m := 10) (i := 0) rfl] at h1; cases h1
  · exact ⟨v, h2, h3, m, h4⟩

theorem fresh_trans {w w1 : World} {R R1 R2 : Option Nat} (h1 : R1 = R ∨ ∀ i, R1 = some i → w.heap.size ≤ i) (h2 : R2 = R1 ∨ ∀ i, R2 = some i → w1.heap.size ≤ i) (h : w.heap.size ≤ w1.heap.size) : R2 = R ∨ ∀ i, R2 = some i → w.heap.size ≤ i := by
  rcases h2 with rfl | h2
  · exact h1
  · exact .inr fun i hi => Nat.le_trans h (h2 i hi)
/-- What a reader's step, and a store into block ib besides, may change. -/
def RdrX (T : Nat → Prop) (rb bb : Nat) (R : Option Nat) : Nat → Prop := fun i => T i ∨ i = rb ∨ i = bb ∨ R = some i
theorem RdrX.step {T : Nat → Prop} {rb bb : Nat} {R R1 : Option Nat} {w wa wb : World} (k : Keeps (RdrX T rb bb R) w wa) (hS : R1 = R ∨ ∀ i, R1 = some i → w.heap.size ≤ i) (h : Keeps (fun i => i = rb ∨ i = bb ∨ R1 = some i) wa wb) : Keeps (RdrX T rb bb R) w wb := by
  refine k.trans h ?_
  rintro i hi (rfl | rfl | h1)
  · exact .inr (.inl rfl)
  · exact .inr (.inr (.inl rfl))
  · rcases hS with rfl | hS
    · exact .inr (.inr (.inr h1))
    · exact absurd (hS i h1) (by omega)
theorem RdrX.store {T : Nat → Prop} {rb bb : Nat} {R : Option Nat} {w wa wb : World} (k : Keeps (RdrX T rb bb R) w wa) (h : Keeps T wa wb) : Keeps (RdrX T rb bb R) w wb := k.trans h fun _ _ h => .inl h
/-- A block of another type than the reader's own lies apart from all that a reader may change. -/
theorem RdrOn.apart {w : World} {base rb bb : Nat} {D R : Option Nat} {d : List UInt8} {g : Nat} {t : TypeId} {cs : Array Value} (h : RdrOn w base rb bb D R d) (hg : Whole w g t cs)
    (h1 : t ≠ 74) (h2 : t ≠ 63) (h3 : t ≠ 5) : ¬ (g = rb ∨ g = bb ∨ R = some g) := by
  obtain ⟨A, c, C, n, k, q, hA, _, rfl⟩ := h
  rintro (rfl | rfl | h)
  · exact hg.differ hA.rdr h1 rfl
  · exact hg.differ hA.blk h2 rfl
  · have := own_far hA.own hg (Ne.symm h3)
    rw [ownBlock_slice] at this
    exact this h

theorem bool_ok (w : World) (base rb bb : Nat) (D R : Option Nat) (o : Bool) (l : List UInt8) (hR : RdrOn w base rb bb D R ((if o then 1 else 0) :: l)) :
    Calls Tryd.prog 38 #[.pointer (some ⟨rb, 0, none⟩)] w fun e w' => e = .returned (.tuple #[.bool o, .nilIface]) ∧ RdrGo w w' base rb bb D R l := by
  refine (bool_any w base rb bb D R _ hR).mono ?_
  intro e w' h
  rcases h with ⟨b, m, h1, h2, rfl, h3⟩ | ⟨v, m, h1, _⟩
  · injection h1 with h4 h5
    subst h5
    refine ⟨?_, h3⟩
    rw [← h4]
    cases o <;> rfl
  · rcases h1 with h1 | ⟨b, m', h1, h2⟩
    · cases h1
    · injection h1 with h4 h5
      rw [← h4] at h2
      cases o <;> simp at h2
theorem bool_none (w : World) (base rb bb : Nat) (D R : Option Nat) (hR : RdrOn w base rb bb D R []) :
    Calls Tryd.prog 38 #[.pointer (some ⟨rb, 0, none⟩)] w fun e w' => ∃ v, e = .returned (.tuple #[.bool false, v]) ∧ IsErr v ∧ ∃ m, RdrGo w w' base rb bb D R m := by
  refine (bool_any w base rb bb D R _ hR).mono ?_
  intro e w' h
  rcases h with ⟨b, m, h1, _⟩ | ⟨v, m, h1, rfl, h2, h3⟩
  · cases h1
  · exact ⟨v, rfl, h2, m, h3⟩
end Go.Proofs.YthfoleapdmpdfaaDoor
