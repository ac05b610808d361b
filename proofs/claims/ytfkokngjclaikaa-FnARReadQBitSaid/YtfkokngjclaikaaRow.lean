/- A row of bytes that came in, as a list of bytes. -/
import Derived.Test.YtfkokngjclaikaaMem
import Derived.OpenShut
namespace Go.Proofs.Ytfkokngjclaikaa
open Go.RowKit
theorem row_bytes (w : World) (a : Option Addr) (len cap : Nat) (zs : List Int) (h : (a = none ∧ len = 0 ∧ cap = 0 ∧ zs = []) ∨ ∃ x, a = some x ∧ len ≤ cap ∧ cap ≤ maxLen ∧ zs.length = cap ∧ (∀ i, i < zs.length → w.cell? (x.add i) = some (.int .u8 (zs.getD i 0))) ∧ ∀ n ∈ zs, (Lit.int .u8 n).wf = true) :
    ∃ l : List UInt8, l.length = len ∧ Rd w 1 a len (Lib.byteCells l) ∧ len ≤ cap := by
  rcases h with ⟨rfl, rfl, rfl, rfl⟩ | ⟨x, rfl, hlc, hm, hz, hcell, hwf⟩
  · exact ⟨[], rfl, Rd.none', Nat.le_refl _⟩
  · refine ⟨(zs.take len).map fun z => UInt8.ofNat z.toNat, by simp; omega, ⟨by simp [Lib.byteCells]; omega, fun hn => ?_⟩, hlc⟩
    have hlt : x.block < w.heap.size := by
      have h0 := hcell 0 (by omega)
      have e0 : x.add 0 = x := by simp [Addr.add]
      rw [e0] at h0
      rcases Nat.lt_or_ge x.block w.heap.size with h | h
      · exact h
      · simp [World.cell?, Array.getElem?_eq_none h] at h0
    refine ⟨x, rfl, hlt, fun j u hu => ?_⟩
    simp only [Lib.byteCells, List.map_map, List.getElem?_map, Option.map_eq_some_iff] at hu
    obtain ⟨z, hz1, rfl⟩ := hu
    rw [List.getElem?_take] at hz1
    split at hz1
    case isFalse => cases hz1
    have hj : j < zs.length := by omega
    rw [hcell j hj]
    have hz2 : zs.getD j 0 = z := by rw [List.getD_eq_getElem?_getD, hz1]; rfl
    rw [hz2]
    have hb := hwf z (List.mem_of_getElem? hz1)
    obtain ⟨b1, b2⟩ : 0 ≤ z ∧ z ≤ 255 := by
      simp [Lit.wf, IntKind.min, IntKind.max, IntKind.signed, IntKind.bits] at hb
      omega
    have e : ((UInt8.ofNat z.toNat).toNat : Int) = z := by rw [UInt8.toNat_ofNat']; omega
    simp only [Function.comp, e]
end Go.Proofs.Ytfkokngjclaikaa
