/- A beginning of bytes. Conditions: the bytes are not none. -/
import Derived.Test.YthfoleapdmpdfaaDoorBuf
namespace Go.Proofs.YthfoleapdmpdfaaDoor
open Go.RowKit
theorem own_cap {w : World} {base n c size k : Nat} {e : TypeId} {A : Option Addr} {xs : List Value} (h : w.ownsRow base e size (.slice A n c) k xs) : k ≤ c := by
  rcases h.2 with ⟨h', h0⟩ | ⟨g', cap', cur, h', _, _, hnc, _⟩
  · injection h' with h1 h2 h3
    omega
  · injection h' with h1 h2 h3
    omega
theorem Rd.first {w : World} {n k : Nat} {A : Option Addr} {xs : List Value} (h : Rd w 1 A n xs) (hk : k ≤ n) : Rd w 1 A k (xs.take k) := by
  refine ⟨by rw [List.length_take, h.1]; omega, fun hn => ?_⟩
  obtain ⟨ad, rfl, hb, hc⟩ := h.2 (by omega)
  refine ⟨ad, rfl, hb, fun j u hu => hc j u ?_⟩
  rw [List.getElem?_take] at hu
  split at hu
  · exact hu
  · cases hu
theorem byteCells_take (l : List UInt8) (k : Nat) : (Lib.byteCells l).take k = Lib.byteCells (l.take k) := by simp only [Lib.byteCells, List.map_take]

end Go.Proofs.YthfoleapdmpdfaaDoor
