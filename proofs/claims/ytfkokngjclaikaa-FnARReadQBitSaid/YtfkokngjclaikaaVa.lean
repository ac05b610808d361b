/- A float of 32 bits that is finite, made one of 64 bits and again one of 32, is itself. Condition: its exponent is not the greatest. -/
import Derived.Laws.FloatArith
import Derived.KernelRfl
namespace Go.Proofs.Ytfkokngjclaikaa
open Ieee Go
set_option linter.unusedVariables false
theorem read_signed (neg : Bool) (e kept : Nat) (hk : 2 ^ 52 ≤ kept) (hk2 : kept < 2 ^ 53) (he : e ≤ 2000) : double.read (double.word neg (e * 2 ^ 52 + kept)) = .number neg kept (-1074 + e) := by
  have hs : double.signWeight = 9223372036854775808 := rfl
  have hb : double.binade = 4503599627370496 := rfl
  have hi : double.infRung = 2047 * 4503599627370496 := rfl
  have hl : double.leastPlace = -1074 := rfl
  rw [show (2 : Nat) ^ 52 = 4503599627370496 from rfl] at *
  rw [show (2 : Nat) ^ 53 = 9007199254740992 from rfl] at hk2
  unfold Format.read Format.word
  rw [hs, hb, hi, hl]
  have h0 : e * 4503599627370496 + kept < 9223372036854775808 := by omega
  have h3 : (e * 4503599627370496 + kept) / 4503599627370496 = e + 1 := by omega
  have h4 : (e * 4503599627370496 + kept) % 4503599627370496 = kept - 4503599627370496 := by omega
  have h5 : 4503599627370496 + (kept - 4503599627370496) = kept := by omega
  have h6 : e + 1 - 1 = e := by omega
  cases neg
  · have h1 : (e * 4503599627370496 + kept) % 9223372036854775808 = e * 4503599627370496 + kept := Nat.mod_eq_of_lt h0
    have h2 : (e * 4503599627370496 + kept) / 9223372036854775808 = 0 := Nat.div_eq_of_lt h0
    simp only [Bool.false_eq_true, if_false, h1, h2, h3, h4]
    rw [if_neg (by omega), if_pos (by omega), h5, h6]
    rfl
  · have h1 : (9223372036854775808 + (e * 4503599627370496 + kept)) % 9223372036854775808 = e * 4503599627370496 + kept := by omega
    have h2 : (9223372036854775808 + (e * 4503599627370496 + kept)) / 9223372036854775808 = 1 := by omega
    simp only [if_true, h1, h2, h3, h4]
    rw [if_neg (by omega), if_pos (by omega), h5, h6]
    rfl
theorem cut_none (n : Nat) (neg : Bool) : Toward.even.cut neg n 0 = n := by
  unfold Toward.cut
  simp [Nat.mod_one]
theorem cut_whole' (m d : Nat) (neg : Bool) (hm : m ≠ 0) : Toward.even.cut neg (m * 2 ^ d) d = m := by
  unfold Toward.cut
  have hlog : d ≤ (m * 2 ^ d).log2 + 2 := by
    have h1 : 2 ^ d ≤ m * 2 ^ d := Nat.le_mul_of_pos_left _ (by omega)
    have h2 : d ≤ (m * 2 ^ d).log2 := (Nat.le_log2 (by have := Nat.two_pow_pos d; omega)).2 h1
    omega
  rw [Nat.min_eq_left hlog, Nat.one_shiftLeft]
  have hp := Nat.two_pow_pos d
  simp only [Nat.mul_div_cancel m hp, Nat.mul_mod_left]
  have h0 : ¬ (2 ^ d < 2 * 0) := by omega
  have h1 : ¬ (2 ^ d = 2 * 0) := by omega
  simp [h0]
/-- What a word of 32 bits that is finite stands for. -/
theorem read32 (x : Nat) (hx : x < 4294967296) (hf : x / 8388608 % 256 < 255) : ∃ (neg : Bool) (mag q : Nat), single.read x = .number neg mag (-149 + (q : Int)) ∧ x = single.word neg (q * 8388608 + mag) ∧ mag < 16777216 ∧ (mag < 8388608 → q = 0) ∧ q ≤ 253 := by
  have hs : single.signWeight = 2147483648 := rfl
  have hb : single.binade = 8388608 := rfl
  have hi : single.infRung = 255 * 8388608 := rfl
  have hl : single.leastPlace = -149 := rfl
  have hr : x % 2147483648 < 255 * 8388608 := by omega
  have hneg : x = single.word (x / 2147483648 % 2 == 1) (x % 2147483648) := by
    unfold Format.word
    rw [hs]
    by_cases h : x / 2147483648 % 2 = 1
    · simp [h]; omega
    · simp [h]; omega
  by_cases h1 : x % 2147483648 < 8388608
  · refine ⟨x / 2147483648 % 2 == 1, x % 2147483648, 0, ?_, by rw [Nat.zero_mul, Nat.zero_add]; exact hneg, by omega, fun _ => rfl, by omega⟩
    unfold Format.read
    rw [hs, hb, hl]
    simp only [if_pos h1]
    rfl
  · refine ⟨x / 2147483648 % 2 == 1, 8388608 + x % 2147483648 % 8388608, x % 2147483648 / 8388608 - 1, ?_, ?_, by omega, fun h => absurd h (by omega), by omega⟩
    · unfold Format.read
      rw [hs, hb, hl, hi]
      simp only [if_neg h1, if_pos hr]
    · rw [show (x % 2147483648 / 8388608 - 1) * 8388608 + (8388608 + x % 2147483648 % 8388608) = x % 2147483648 by omega]
      exact hneg
theorem widen_narrow (x : Nat) (hx : x < 4294967296) (hf : x / 8388608 % 256 < 255) : ∃ r, floatToFloatBits .f32 x .f64 = some r ∧ r < 18446744073709551616 ∧ floatToFloatBits .f64 r .f32 = some x := by
  obtain ⟨neg, mag, q, hread, hword, hmag, hsub, hq⟩ := read32 x hx hf
  have hsl : single.leastPlace = -149 := rfl
  have hsb : single.binade = 8388608 := rfl
  have hsi : single.infRung = 255 * 8388608 := rfl
  have hdl : double.leastPlace = -1074 := rfl
  have hdb : double.binade = 2 ^ 52 := rfl
  have hdi : double.infRung = 2047 * 2 ^ 52 := rfl
  have hdf : double.fractionBits = 52 := rfl
  have hsf : single.fractionBits = 23 := rfl
  by_cases hm : mag = 0
  · have hq0 : q = 0 := hsub (by omega)
    subst hm hq0
    refine ⟨double.word neg 0, ?_, ?_, ?_⟩
    · unfold floatToFloatBits
      rw [if_neg (by decide)]
      show (match single.read x with | .nan _ _ => none | .infinity s => _ | .number s m e => _) = _
      rw [hread]
      cases neg <;> rfl
    · cases neg <;> decide
    · rw [hword]
      cases neg <;> decide
  · obtain ⟨L, hL⟩ : ∃ L, mag.log2 = L := ⟨_, rfl⟩
    obtain ⟨b1, b2⟩ := (Nat.log2_eq_iff hm).1 hL
    have hL23 : L ≤ 23 := by
      rcases Nat.lt_or_ge 23 L with h | h
      · have : 2 ^ 24 ≤ 2 ^ L := Nat.pow_le_pow_right (by omega) h
        omega
      · exact h
    have hk1 : 2 ^ 52 ≤ mag * 2 ^ (52 - L) := by
      rw [show 2 ^ 52 = 2 ^ L * 2 ^ (52 - L) by rw [← Nat.pow_add]; congr 1; omega]
      exact Nat.mul_le_mul_right _ b1
    have hk2 : mag * 2 ^ (52 - L) < 2 ^ 53 := by
      rw [show 2 ^ 53 = 2 ^ (L + 1) * 2 ^ (52 - L) by rw [← Nat.pow_add]; congr 1; omega]
      exact Nat.mul_lt_mul_of_pos_right b2 (Nat.two_pow_pos _)
    have hnear : double.nearest neg mag (-149 + (q : Int)) = double.word neg ((873 + q + L) * 2 ^ 52 + mag * 2 ^ (52 - L)) := by
      unfold Format.nearest
      rw [if_neg hm, hL, hdl, hdf, hdb, hdi]
      have hmx : max (-149 + (q : Int) + (L : Int) - ((52 : Nat) : Int)) (-1074) = -149 + (q : Int) + (L : Int) - 52 := by omega
      simp only [hmx]
      rw [show (-149 + (q : Int) - (-149 + (q : Int) + (L : Int) - 52)).toNat = 52 - L by omega, show ((-149 + (q : Int) + (L : Int) - 52) - (-149 + (q : Int))).toNat = 0 by omega, cut_none, Nat.shiftLeft_eq, show ((-149 + (q : Int) + (L : Int) - 52) - -1074).toNat = 873 + q + L by omega]
      congr 1
      refine Nat.min_eq_left ?_
      have g1 : (873 + q + L + 2) * 2 ^ 52 ≤ 2047 * 2 ^ 52 := Nat.mul_le_mul_right _ (by omega)
      rw [Nat.add_mul, show 2 * 2 ^ 52 = 2 ^ 53 from rfl] at g1
      exact Nat.le_trans (Nat.le_of_lt (Nat.add_lt_add_left hk2 _)) g1
    have hr2 := read_signed neg (873 + q + L) _ hk1 hk2 (by omega)
    have hback : single.nearest neg (mag * 2 ^ (52 - L)) (-1074 + ((873 + q + L : Nat) : Int)) = x := by
      have hklog : (mag * 2 ^ (52 - L)).log2 = 52 := (Nat.log2_eq_iff (by have := Nat.two_pow_pos 52; omega)).2 ⟨hk1, hk2⟩
      unfold Format.nearest
      rw [if_neg (by have := Nat.two_pow_pos 52; omega), hklog, hsl, hsf, hsb, hsi]
      have hcase : L = 23 ∨ (L < 23 ∧ q = 0) := by
        rcases Nat.lt_or_ge L 23 with h | h
        · refine .inr ⟨h, hsub ?_⟩
          have : 2 ^ (L + 1) ≤ 2 ^ 23 := Nat.pow_le_pow_right (by omega) (by omega)
          omega
        · exact .inl (by omega)
      have hmx : max (-1074 + ((873 + q + L : Nat) : Int) + ((52 : Nat) : Int) - ((23 : Nat) : Int)) (-149) = -149 + (q : Int) := by omega
      simp only [hmx]
      rw [show (-1074 + ((873 + q + L : Nat) : Int) - (-149 + (q : Int))).toNat = 0 by omega, show (-149 + (q : Int) - (-1074 + ((873 + q + L : Nat) : Int))).toNat = 52 - L by omega, Nat.shiftLeft_zero, cut_whole' _ _ _ hm, show (-149 + (q : Int) - -149).toNat = q by omega, hword]
      congr 1
      exact Nat.min_eq_left (by omega)
    refine ⟨double.word neg ((873 + q + L) * 2 ^ 52 + mag * 2 ^ (52 - L)), ?_, ?_, ?_⟩
    · unfold floatToFloatBits
      rw [if_neg (by decide)]
      show (match single.read x with | .nan _ _ => none | .infinity s => some (double.write (.infinity s)) | .number s m e => if (double.read (double.write (.number s m e))).isInfinity then none else some (double.write (.number s m e))) = _
      rw [hread]
      show (if (double.read (double.nearest neg mag (-149 + (q : Int)))).isInfinity then none else some (double.nearest neg mag (-149 + (q : Int)))) = _
      rw [hnear, hr2]
      rfl
    · unfold Format.word
      rw [show double.signWeight = 2 ^ 63 from rfl]
      have g1 : (873 + q + L + 2) * 2 ^ 52 ≤ 2047 * 2 ^ 52 := Nat.mul_le_mul_right _ (by omega)
      split <;> omega
    · unfold floatToFloatBits
      rw [if_neg (by decide)]
      show (match double.read (double.word neg ((873 + q + L) * 2 ^ 52 + mag * 2 ^ (52 - L))) with | .nan _ _ => none | .infinity s => some (single.write (.infinity s)) | .number s m e => if (single.read (single.write (.number s m e))).isInfinity then none else some (single.write (.number s m e))) = _
      rw [hr2]
      show (if (single.read (single.nearest neg (mag * 2 ^ (52 - L)) (-1074 + ((873 + q + L : Nat) : Int)))).isInfinity then none else some (single.nearest neg (mag * 2 ^ (52 - L)) (-1074 + ((873 + q + L : Nat) : Int)))) = _
      rw [hback, hread]
      rfl
end Go.Proofs.Ytfkokngjclaikaa
