/- A varint read by a reader: any bytes. Conditions as in the text of the reader. -/
import Derived.Test.YtoilbojaenfalaaGreatRd2
import Derived.Lib.VarintBits
import Derived.OpenShut
namespace Go.Proofs.YtoilbojaenfalaaGreat
open Go.RowKit

/-- What a varint from the front of some bytes is: k bytes more may come, i have come, they made acc. -/
def uvGo : Nat → Nat → Nat → List UInt8 → Option (Nat × List UInt8)
  | 0, _, _, _ => none
  | _ + 1, _, _, [] => none
  | k + 1, i, acc, b :: l => if b.toNat < 128 then (if i = 9 ∧ 1 < b.toNat then none else some (acc + b.toNat * 2 ^ (7 * i), l)) else uvGo k (i + 1) (acc + (b.toNat - 128) * 2 ^ (7 * i)) l

theorem uvGo_zero (i acc : Nat) (l : List UInt8) : uvGo 0 i acc l = none := by cases l <;> rfl
theorem uvGo_nil {m i acc : Nat} (h : m = 10 - i) : uvGo m i acc [] = none := by cases m <;> rfl
theorem uvGo_over {acc x : Nat} {b : UInt8} {l : List UInt8} (hx : b.toNat = x) (h : x < 128) (h1 : 1 < x) : uvGo (10 - 9) 9 acc (b :: l) = none := by
  show (if b.toNat < 128 then (if 9 = 9 ∧ 1 < b.toNat then none else _) else _) = none
  rw [hx, if_pos h, if_pos ⟨rfl, h1⟩]
theorem uvGo_last {i acc x : Nat} {b : UInt8} {l : List UInt8} (hx : b.toNat = x) (hi : i < 10) (h : x < 128) (h1 : ¬ (i = 9 ∧ 1 < x)) : uvGo (10 - i) i acc (b :: l) = some (acc + x * 2 ^ (7 * i), l) := by
  obtain ⟨k, hk⟩ : ∃ k, 10 - i = k + 1 := ⟨9 - i, by omega⟩
  rw [hk]
  show (if b.toNat < 128 then (if i = 9 ∧ 1 < b.toNat then none else some (acc + b.toNat * 2 ^ (7 * i), l)) else _) = _
  rw [hx, if_pos h, if_neg h1]
theorem uvGo_more {i acc x : Nat} {b : UInt8} {l : List UInt8} (hx : b.toNat = x) (hi : i < 10) (h : ¬ x < 128) : uvGo (10 - i) i acc (b :: l) = uvGo (10 - (i + 1)) (i + 1) (acc + (x - 128) * 2 ^ (7 * i)) l := by
  obtain ⟨k, hk⟩ : ∃ k, 10 - i = k + 1 := ⟨9 - i, by omega⟩
  rw [hk, show 10 - (i + 1) = k by omega]
  show (if b.toNat < 128 then _ else uvGo k _ (acc + (b.toNat - 128) * 2 ^ (7 * i)) l) = _
  rw [hx, if_neg h]
theorem ret2_int {k : IntKind} {a b : Int} {v : Value} (h : a = b) : Ending.returned (.tuple #[.int k a, v]) = .returned (.tuple #[.int k b, v]) := by rw [h]
theorem or_shift (acc x m : Nat) (hacc : acc < 2 ^ m) (h : x * 2 ^ m < 18446744073709551616) (ha : acc < 18446744073709551616) : Go.bits .or .u64 (acc : Int) (IntKind.u64.wrap ((x : Int) * 2 ^ m)) = ((acc + x * 2 ^ m : Nat) : Int) := by
  have hc : (x : Int) * 2 ^ m = ((x * 2 ^ m : Nat) : Int) := by simp
  rw [hc, wraps_u64 _ (by omega) (by show _ < (18446744073709551616 : Int); omega)]
  rw [bits_join_low .u64 64 (by decide) wraps_u64 m _ _ (by omega) (by have : ((2 : Int) ^ m) = ((2 ^ m : Nat) : Int) := by simp
                                                                       rw [this]; exact_mod_cast hacc) (by show _ < (18446744073709551616 : Int); omega) (by omega) ?_ (by show _ < (18446744073709551616 : Int); omega)]
  · simp
  · have : ((2 : Int) ^ m) = ((2 ^ m : Nat) : Int) := by simp
    rw [this]
    have h2 : x * 2 ^ m % 2 ^ m = 0 := Nat.mul_mod_left _ _
    exact_mod_cast h2
theorem pow7 (i : Nat) (h : i ≤ 8) : 128 * 2 ^ (7 * i) = 2 ^ (7 * (i + 1)) ∧ 2 ^ (7 * i) ≤ 72057594037927936 := by
  match i, h with
  | 0, _ | 1, _ | 2, _ | 3, _ | 4, _ | 5, _ | 6, _ | 7, _ | 8, _ => decide
theorem and127 (x : Nat) (h1 : 128 ≤ x) (h2 : x < 256) : IntKind.u64.wrap (Go.bits .and .u8 (x : Int) 127) = ((x - 128 : Nat) : Int) := by
  rw [u8_and127 _ (by omega) (by omega), wraps_u64 _ (by omega) (by show _ < (18446744073709551616 : Int); omega)]
  omega
theorem or_nat (a b : Int) : ∃ n : Nat, Go.bits .or .u64 a b = (n : Int) ∧ n < 18446744073709551616 := by
  have h := bounds_u64 (wf_bits .or .u64 a b)
  exact ⟨(Go.bits .or .u64 a b).toNat, by omega, by omega⟩

end Go.Proofs.YtoilbojaenfalaaGreat
