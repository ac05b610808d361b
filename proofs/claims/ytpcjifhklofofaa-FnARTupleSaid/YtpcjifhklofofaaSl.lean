/- The length of a string read by a reader. Conditions: the bytes are there; a length far below the machine's. -/
import Derived.Test.YtpcjifhklofofaaUvr
namespace Go.Proofs.Ytpcjifhklofofaa
open Go.RowKit
namespace Len
theorem toNat_small {x : Nat} (h : x < 256) : x.toUInt8.toNat = x := by
  show (UInt8.ofNat x).toNat = x
  rw [UInt8.toNat_ofNat']; omega
theorem uvGo_whole : ∀ (x i acc : Nat) (rest : List UInt8), i < 10 → x * 2 ^ (7 * i) < 18446744073709551616 → uvGo (10 - i) i acc (Lib.uvarint x ++ rest) = some (acc + x * 2 ^ (7 * i), rest) := by
  intro x
  induction x using Nat.strongRecOn with
  | _ x ih =>
    intro i acc rest hi hx
    by_cases h : x < 128
    · rw [Lib.uvarint_small h]
      exact uvGo_last (toNat_small (by omega)) hi h (by
        rintro ⟨rfl, h1⟩
        have : (2 : Nat) ^ (7 * 9) = 9223372036854775808 := by decide
        rw [this] at hx
        omega)
    · have hi9 : i ≤ 8 := by
        rcases Nat.lt_or_ge i 9 with h9 | h9
        · omega
        · obtain rfl : i = 9 := by omega
          have : (2 : Nat) ^ (7 * 9) = 9223372036854775808 := by decide
          rw [this] at hx
          omega
      have hp := (pow7 i hi9).1
      have hd : x / 128 * 2 ^ (7 * (i + 1)) + x % 128 * 2 ^ (7 * i) = x * 2 ^ (7 * i) := by
        rw [← hp, ← Nat.mul_assoc, ← Nat.add_mul]
        congr 1
        omega
      rw [Lib.uvarint_big (by omega), List.cons_append, uvGo_more (x := x % 128 + 128) (toNat_small (by omega)) hi (by omega), ih (x / 128) (by omega) (i + 1) _ rest (by omega) (by omega)]
      congr 2
      rw [Nat.add_sub_cancel]
      omega
end Len
set_option maxRecDepth 10000 in
theorem strLen (w : World) (base rb bb : Nat) (D R : Option Nat) (x : Nat) (d : List UInt8) (hx : x ≤ 1000000000) (hR : RdrOn w base rb bb D R (Lib.uvarint x ++ d)) :
    Calls Try.prog 65 #[.pointer (some ⟨rb, 0, none⟩)] w fun e w' => e = .returned (.tuple #[.int .i64 (x : Int), .nilIface]) ∧ RdrGo w w' base rb bb D R d := by
  have hw := Len.uvGo_whole x 0 0 d (by omega) (by simp; omega)
  simp only [Nat.sub_zero, Nat.mul_zero, Nat.pow_zero, Nat.mul_one, Nat.zero_add] at hw
  have HU := Lib.hid (uvarint_any w base rb bb D R (Lib.uvarint x ++ d) hR)
  have HW := Lib.hid hw
  have hx1 : IntKind.i64.wrap (x : Int) = (x : Int) := by rw [IntKind.wrap_i64]; omega
  have hx2 : ¬ ((x : Int) < 0) := by omega
  clear hR hw
  go_enter Try.func65, Try.ntmps65
  go_wp2_with (go_at_call 69; go_in)
  refine HU.out.mono ?_
  rintro e w1 (⟨y, l, hy, rfl, hG⟩ | ⟨v, l, hy, rfl, hv, hG⟩)
  · rw [HW.out] at hy
    injection hy with hy
    injection hy with hy1 hy2
    subst hy1 hy2
    have HG := Lib.hid hG
    clear hG
    go_wp2_with fail
    go_ret2
    exact ⟨rfl, HG.out⟩
  · rw [HW.out] at hy
    cases hy
end Go.Proofs.Ytpcjifhklofofaa
