/- A beginning of bytes. Conditions: the bytes are not none. -/
import Derived.Test.YtgnlfbekkddmiaaBuf
namespace Go.Proofs.Ytgnlfbekkddmiaa
open Go.RowKit
theorem own_cap {w : World} {base n c size k : Nat} {e : TypeId} {A : Option Addr} {xs : List Value} (h : w.ownsRow base e size (.slice A n c) k xs) : k ≤ c := by
  rcases h.2 with ⟨h', h0⟩ | ⟨g', cap', cur, h', _, _, hnc, _⟩
  · injection h' with h1 h2 h3
    omega
  · injection h' with h1 h2 h3
    omega
theorem Rd.first {w : World} {n k : Nat} {A : Option Addr} {xs : List Value} (h : Rd w 1 A n xs) (hk : k ≤ n) : Rd w 1 A k (xs.take k) := by
  refine ⟨by rw [List.length_take, h.1]; omega, fun hn => ?_⟩
  obtain ⟨ad, rfl, hb, hc⟩ := h.2 (by omega)
  refine ⟨ad, rfl, hb, fun j u hu => hc j u ?_⟩
  rw [List.getElem?_take] at hu
  split at hu
  · exact hu
  · cases hu
theorem byteCells_take (l : List UInt8) (k : Nat) : (Lib.byteCells l).take k = Lib.byteCells (l.take k) := by simp only [Lib.byteCells, List.map_take]

set_option maxHeartbeats 400000 in
theorem pkCut (w : World) (A : Option Addr) (c n m : Nat) (hn : 0 < n) (hc : n ≤ c) (hm : m < 65536) :
    Calls Try.prog 9 #[.slice A n c, .int .u16 m] w fun e w' => e = .returned (.slice A (m % n) c) ∧ w = w' := by
  have h1 : IntKind.i64.wrap (m : Int) = m := by rw [IntKind.wrap_i64]; omega
  have h2 : (m : Int).tmod n = ((m % n : Nat) : Int) := by rw [Int.tmod_eq_emod_of_nonneg (by omega)]; simp
  have h3 : m % n < n := Nat.mod_lt _ hn
  generalize m % n = q at h2 h3
  have h4 : (n : Int) ≠ 0 := by omega
  have h5 : (q : Int) ≤ c := by omega
  have h6 : (0 : Int) ≤ (m : Int) := by omega
  go_enter Try.func9, Try.ntmps9
  go_wp2
  go_ret
  exact ⟨rfl, rfl⟩

end Go.Proofs.Ytgnlfbekkddmiaa
