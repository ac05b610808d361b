/- A varint read from the front of bytes that may be cut off; PRVar of the specification. Conditions as in the text of the reader. -/
import Derived.Test.YthfoleapdmpdfaaDoorRd4
import Derived.Test.YthfoleapdmpdfaaDoorEnc
namespace Go.Proofs.YthfoleapdmpdfaaDoor
open Go.RowKit
theorem toNat_small {x : Nat} (h : x < 256) : x.toUInt8.toNat = x := by
  show (UInt8.ofNat x).toNat = x
  rw [UInt8.toNat_ofNat']; omega
theorem uvGo_whole : ∀ (x i acc : Nat) (rest : List UInt8), i < 10 → x * 2 ^ (7 * i) < 18446744073709551616 → uvGo (10 - i) i acc (Lib.uvarint x ++ rest) = some (acc + x * 2 ^ (7 * i), rest) := by
  intro x
  induction x using Nat.strongRecOn with
  | _ x ih =>
    intro i acc rest hi hx
    by_cases h : x < 128
    · rw [Lib.uvarint_small h]
      exact uvGo_last (toNat_small (by omega)) hi h (by
        rintro ⟨rfl, h1⟩
        have : (2 : Nat) ^ (7 * 9) = 9223372036854775808 := by decide
        rw [this] at hx
        omega)
    · have hi9 : i ≤ 8 := by
        rcases Nat.lt_or_ge i 9 with h9 | h9
        · omega
        · obtain rfl : i = 9 := by omega
          have : (2 : Nat) ^ (7 * 9) = 9223372036854775808 := by decide
          rw [this] at hx
          omega
      have hp := (pow7 i hi9).1
      have hd : x / 128 * 2 ^ (7 * (i + 1)) + x % 128 * 2 ^ (7 * i) = x * 2 ^ (7 * i) := by
        rw [← hp, ← Nat.mul_assoc, ← Nat.add_mul]
        congr 1
        omega
      rw [Lib.uvarint_big (by omega), List.cons_append, uvGo_more (x := x % 128 + 128) (toNat_small (by omega)) hi (by omega), ih (x / 128) (by omega) (i + 1) _ rest (by omega) (by omega)]
      congr 2
      rw [Nat.add_sub_cancel]
      omega
theorem uvGo_cut : ∀ (x i acc m : Nat), i < 10 → x * 2 ^ (7 * i) < 18446744073709551616 → m < (Lib.uvarint x).length → uvGo (10 - i) i acc ((Lib.uvarint x).take m) = none := by
  intro x
  induction x using Nat.strongRecOn with
  | _ x ih =>
    intro i acc m hi hx hm
    match m with
    | 0 => exact uvGo_nil rfl
    | m + 1 =>
      by_cases h : x < 128
      · rw [Lib.uvarint_small h] at hm
        simp at hm
      · have hi9 : i ≤ 8 := by
          rcases Nat.lt_or_ge i 9 with h9 | h9
          · omega
          · obtain rfl : i = 9 := by omega
            have : (2 : Nat) ^ (7 * 9) = 9223372036854775808 := by decide
            rw [this] at hx
            omega
        have hp := (pow7 i hi9).1
        have hd : x / 128 * 2 ^ (7 * (i + 1)) + x % 128 * 2 ^ (7 * i) = x * 2 ^ (7 * i) := by
          rw [← hp, ← Nat.mul_assoc, ← Nat.add_mul]
          congr 1
          omega
        rw [Lib.uvarint_big (by omega)] at hm ⊢
        rw [List.take_succ_cons, uvGo_more (x := x % 128 + 128) (toNat_small (by omega)) hi (by omega)]
        exact ih (x / 128) (by omega) (i + 1) _ m (by omega) (by omega) (by rw [List.length_cons] at hm; omega)

/-- What reading a varint comes to, where the bytes may be cut. -/
def UvStep (w : World) (base rb bb : Nat) (D R : Option Nat) (x : Nat) (d : List UInt8) (m : Nat) (e : Ending) (w' : World) : Prop :=
  (∃ m', m = (Lib.uvarint x).length + m' ∧ e = .returned (.tuple #[.int .u64 x, .nilIface]) ∧ RdrGo w w' base rb bb D R (d.take m')) ∨
  (m < (Lib.uvarint x).length ∧ ∃ v l, e = .returned (.tuple #[.int .u64 0, v]) ∧ IsErr v ∧ RdrGo w w' base rb bb D R l)
theorem uv_step (w : World) (base rb bb : Nat) (D R : Option Nat) (x m : Nat) (d : List UInt8) (hx : x < 18446744073709551616) (hR : RdrOn w base rb bb D R ((Lib.uvarint x ++ d).take m)) :
    Calls Tryd.prog 80 #[.pointer (some ⟨rb, 0, none⟩)] w fun e w' => UvStep w base rb bb D R x d m e w' := by
  refine (uvarint_any w base rb bb D R _ hR).mono ?_
  intro e w' h
  by_cases hm : m < (Lib.uvarint x).length
  · have hc : uvGo 10 0 0 ((Lib.uvarint x ++ d).take m) = none := by
      rw [List.take_append_of_le_length (by omega)]
      exact uvGo_cut x 0 0 m (by omega) (by simpa using hx) hm
    rcases h with ⟨y, l, h1, _⟩ | ⟨v, l, h1, h2, h3, h4⟩
    · rw [hc] at h1; cases h1
    · exact .inr ⟨hm, v, l, h2, h3, h4⟩
  · obtain ⟨m', rfl⟩ : ∃ m', m = (Lib.uvarint x).length + m' := ⟨m - (Lib.uvarint x).length, by omega⟩
    have hc : uvGo 10 0 0 ((Lib.uvarint x ++ d).take ((Lib.uvarint x).length + m')) = some (x, d.take m') := by
      rw [List.take_append, List.take_of_length_le (by omega)]
      rw [show (Lib.uvarint x).length + m' - (Lib.uvarint x).length = m' by omega]
      have := uvGo_whole x 0 0 (d.take m') (by omega) (by simpa using hx)
      simpa using this
    rcases h with ⟨y, l, h1, h2, h3⟩ | ⟨v, l, h1, _⟩
    · rw [hc] at h1
      injection h1 with h1
      injection h1 with h4 h5
      subst h4 h5
      exact .inl ⟨m', rfl, h2, h3⟩
    · rw [hc] at h1; cases h1
end Go.Proofs.YthfoleapdmpdfaaDoor
