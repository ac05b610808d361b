/- The scale of a precision and the tick of the reference are powers of ten: contracts of two functions. No conditions but those that each theorem names. -/
import Derived.Test.YtllokbblmdadnaaRows
import Derived.WalkKit
import Derived.ProofKit
import Derived.OpenShut
import Derived.Lib.Hide
namespace Go.Proofs.Ytllokbblmdadnaa
open Go.RowKit
/-- Ten to the power of n. -/
def tp : Nat → Int
  | 0 => 1
  | n + 1 => tp n * 10
theorem tp_bd (n : Nat) (h : n ≤ 9) : 1 ≤ tp n ∧ tp n ≤ 1000000000 := by
  have : ∀ n, n ≤ 9 → 1 ≤ tp n ∧ tp n * 10 ^ (9 - n) ≤ 1000000000 := by
    intro n hn
    match n, hn with
    | 0, _ | 1, _ | 2, _ | 3, _ | 4, _ | 5, _ | 6, _ | 7, _ | 8, _ | 9, _ => decide
  match n, h with
    | 0, _ | 1, _ | 2, _ | 3, _ | 4, _ | 5, _ | 6, _ | 7, _ | 8, _ | 9, _ => decide
theorem tp_succ (k : Nat) (h : k < 9) : tp (9 - k) = tp (9 - (k + 1)) * 10 := by
  rw [show 9 - k = (9 - (k + 1)) + 1 by omega]; rfl

set_option maxHeartbeats 400000 in
theorem scale_any (p : Int) (w : World) (h0 : 0 ≤ p) (h9 : p ≤ 9) :
    Calls Try.prog 59 #[.int .u8 p] w fun e w' => e = .returned (.int .i64 (tp (9 - p.toNat))) ∧ w = w' := by
  obtain ⟨n, rfl⟩ := Int.eq_ofNat_of_zero_le h0
  rw [Int.toNat_natCast]
  go_enter Try.func59, Try.ntmps59
  go_wp2
  go_loop [3, 4] (fun d i => ∃ k : Nat, n ≤ k ∧ k ≤ 9 ∧ i = .int .u8 k ∧ d = .int .i64 (tp (9 - k))) (fun _ i => (intOf i).toNat)
  case atStart => exact ⟨9, by omega, by omega, rfl, rfl⟩
  case round =>
    obtain ⟨k, hk1, hk2, rfl, rfl⟩ := hrel
    by_cases hlt : n < k
    · obtain ⟨m, rfl⟩ : ∃ m, k = m + 1 := ⟨k - 1, by omega⟩
      have hs := tp_succ m (by omega)
      have hb := tp_bd (9 - (m + 1)) (by omega)
      obtain ⟨hb1, hb2⟩ := hb
      generalize tp (9 - (m + 1)) = t at *
      have hs' := Lib.hid hs
      clear hs
      go_wp2
      go_round
      case rel => exact ⟨m, by omega, by omega, by go_num, by rw [hs'.out]⟩
      case measure => simp [intOf]
    · obtain rfl : n = k := by omega
      go_wp2
      go_ret
      exact ⟨rfl, rfl⟩

set_option maxHeartbeats 400000 in
theorem tick_any (p : Int) (w : World) (h0 : 0 ≤ p) (h9 : p ≤ 9) :
    Calls Try.prog 21 #[.int .u8 p] w fun e w' => e = .returned (.int .i64 (tp (9 - p.toNat))) ∧ w = w' := by
  obtain ⟨n, rfl⟩ := Int.eq_ofNat_of_zero_le h0
  rw [Int.toNat_natCast]
  go_enter Try.func21, Try.ntmps21
  go_wp2
  go_loop [3, 4] (fun d i => ∃ k : Nat, n ≤ k ∧ k ≤ 9 ∧ i = .int .u8 k ∧ d = .int .i64 (tp (k - n))) (fun _ i => (9 - intOf i).toNat)
  case atStart => exact ⟨n, by omega, by omega, rfl, by simp [tp]⟩
  case round =>
    obtain ⟨k, hk1, hk2, rfl, rfl⟩ := hrel
    by_cases hlt : k < 9
    · have hs : tp (k + 1 - n) = tp (k - n) * 10 := by rw [show k + 1 - n = (k - n) + 1 by omega]; rfl
      have hb := tp_bd (k - n) (by omega)
      obtain ⟨hb1, hb2⟩ := hb
      generalize tp (k - n) = t at *
      have hs' := Lib.hid hs
      clear hs
      go_wp2
      go_round
      case rel => exact ⟨k + 1, by omega, by omega, by go_num, by rw [hs'.out]⟩
      case measure => simp [intOf]; omega
    · obtain rfl : k = 9 := by omega
      go_wp2
      go_ret
      exact ⟨rfl, rfl⟩
end Go.Proofs.Ytllokbblmdadnaa
