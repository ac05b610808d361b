/- Floats of 64 bits: a whole number and a part below 1 are added, and the sum is cut again. No conditions but those that each theorem names. -/
import Derived.Laws.FloatArith
import Derived.KernelRfl
namespace Go.Proofs.YtlfbmjgmdcfbkaaDoor
open Ieee
set_option linter.unusedVariables false
theorem read_normal (e kept : Nat) (hk : 2 ^ 52 ≤ kept) (hk2 : kept < 2 ^ 53) (he : e ≤ 2000) : double.read (e * 2 ^ 52 + kept) = .number false kept (-1074 + e) := by
  have hs : double.signWeight = 9223372036854775808 := rfl
  have hb : double.binade = 4503599627370496 := rfl
  have hi : double.infRung = 2047 * 4503599627370496 := rfl
  have hl : double.leastPlace = -1074 := rfl
  rw [show (2 : Nat) ^ 52 = 4503599627370496 from rfl] at *
  rw [show (2 : Nat) ^ 53 = 9007199254740992 from rfl] at hk2
  unfold Format.read
  rw [hs, hb, hi, hl]
  have h1 : (e * 4503599627370496 + kept) % 9223372036854775808 = e * 4503599627370496 + kept := Nat.mod_eq_of_lt (by omega)
  have h2 : (e * 4503599627370496 + kept) / 9223372036854775808 = 0 := Nat.div_eq_of_lt (by omega)
  have h3 : (e * 4503599627370496 + kept) / 4503599627370496 = e + 1 := by omega
  have h4 : (e * 4503599627370496 + kept) % 4503599627370496 = kept - 4503599627370496 := by omega
  simp only [h1, h2, h3, h4]
  rw [if_neg (by omega), if_pos (by omega)]
  have h5 : 4503599627370496 + (kept - 4503599627370496) = kept := by omega
  have h6 : e + 1 - 1 = e := by omega
  rw [h5, h6]
  rfl
theorem nearest_val (mag : Nat) (place last : Int) (L kept : Nat) (hm : mag ≠ 0) (hL : mag.log2 = L) (hlast : last = place + L - 52) (h1 : -1074 ≤ last) (h2 : last ≤ 900)
    (hkept : Toward.even.cut false (mag <<< (place - last).toNat) (last - place).toNat = kept) (hk1 : 2 ^ 52 ≤ kept) (hk2 : kept < 2 ^ 53) : double.read (double.nearest false mag place) = .number false kept last := by
  have hl : double.leastPlace = -1074 := rfl
  have hb : double.binade = 2 ^ 52 := rfl
  have hi : double.infRung = 2047 * 2 ^ 52 := rfl
  have hf : double.fractionBits = 52 := rfl
  unfold Format.nearest
  rw [if_neg hm, hL, hl, hf, hb, hi]
  have hmx : max (place + (L : Int) - ((52 : Nat) : Int)) (-1074) = last := by omega
  simp only [hmx, hkept]
  unfold Format.word
  simp only [Bool.false_eq_true, if_false]
  obtain ⟨e, he⟩ : ∃ e : Nat, last = -1074 + (e : Int) := ⟨(last + 1074).toNat, by omega⟩
  have h3 : (last - -1074).toNat = e := by omega
  rw [h3]
  have h4 : min (e * 2 ^ 52 + kept) (2047 * 2 ^ 52) = e * 2 ^ 52 + kept := by
    have he2 : e + 2 ≤ 2047 := by omega
    have g1 : (e + 2) * 2 ^ 52 ≤ 2047 * 2 ^ 52 := Nat.mul_le_mul_right _ he2
    rw [Nat.add_mul, show 2 * 2 ^ 52 = 2 ^ 53 from rfl] at g1
    exact Nat.min_eq_left (Nat.le_trans (Nat.le_of_lt (Nat.add_lt_add_left hk2 _)) g1)
  rw [h4, read_normal e kept hk1 hk2 (by omega), ← he]
theorem cut_exact (n : Nat) : Toward.even.cut false n 0 = n := by
  unfold Toward.cut
  simp [Nat.mod_one]
theorem log2_of {n k : Nat} (h1 : 2 ^ k ≤ n) (h2 : n < 2 ^ (k + 1)) : n.log2 = k := (Nat.log2_eq_iff (by have := Nat.two_pow_pos k; omega)).2 ⟨h1, h2⟩
theorem read_int (h L : Nat) (h0 : h ≠ 0) (hL : h.log2 = L) (hL2 : L ≤ 52) : double.read (double.nearest false h 0) = .number false (h * 2 ^ (52 - L)) ((L : Int) - 52) := by
  obtain ⟨b1, b2⟩ := (Nat.log2_eq_iff h0).1 hL
  refine nearest_val h 0 _ L _ h0 hL (by omega) (by omega) (by omega) ?_ ?_ ?_
  · rw [show ((L : Int) - 52 - 0).toNat = 0 by omega, show (0 - ((L : Int) - 52)).toNat = 52 - L by omega, cut_exact, Nat.shiftLeft_eq]
  · rw [show 2 ^ 52 = 2 ^ L * 2 ^ (52 - L) by rw [← Nat.pow_add]; congr 1; omega]
    exact Nat.mul_le_mul_right _ b1
  · rw [show 2 ^ 53 = 2 ^ (L + 1) * 2 ^ (52 - L) by rw [← Nat.pow_add]; congr 1; omega]
    exact Nat.mul_lt_mul_of_pos_right b2 (Nat.two_pow_pos _)
theorem cut_even (n d : Nat) (h : d ≤ n.log2 + 2) : ∃ more, more ≤ 1 ∧ Toward.even.cut false n d = n / 2 ^ d + more := by
  unfold Toward.cut
  rw [Nat.min_eq_left h, Nat.shiftLeft_eq, Nat.one_mul]
  exact ⟨_, Bool.toNat_le _, rfl⟩
theorem read_sum (h J m L : Nat) (h0 : h ≠ 0) (hL : h.log2 = L) (hL2 : L ≤ 50) (hJ : 53 ≤ J) (hJ2 : J ≤ 1074) (hm : m + 2 ^ (J + L - 51) ≤ 2 ^ J) :
    ∃ kept, double.read (double.nearest false (h * 2 ^ J + m) (-(J : Int))) = .number false kept ((L : Int) - 52) ∧ kept / 2 ^ (52 - L) = h ∧ 2 ^ 52 ≤ kept ∧ kept < 2 ^ 53 := by
  obtain ⟨b1, b2⟩ := (Nat.log2_eq_iff h0).1 hL
  have hpos := Nat.two_pow_pos J
  have hmJ : m < 2 ^ J := by have := Nat.two_pow_pos (J + L - 51); omega
  have c1 : 2 ^ L * 2 ^ J ≤ h * 2 ^ J := Nat.mul_le_mul_right _ b1
  have c2 : (h + 1) * 2 ^ J ≤ 2 ^ (L + 1) * 2 ^ J := Nat.mul_le_mul_right _ b2
  have c3 : (h + 1) * 2 ^ J = h * 2 ^ J + 2 ^ J := Nat.succ_mul _ _
  have hlog : (h * 2 ^ J + m).log2 = J + L := log2_of (by rw [Nat.add_comm J L, Nat.pow_add]; exact Nat.le_trans c1 (Nat.le_add_right _ _)) (by
    rw [show J + L + 1 = L + 1 + J by omega, Nat.pow_add]
    refine Nat.lt_of_lt_of_le ?_ c2
    rw [c3]
    exact Nat.add_lt_add_left hmJ _)
  obtain ⟨d, hd⟩ : ∃ d, d = J + L - 52 := ⟨_, rfl⟩
  obtain ⟨K, hK⟩ : ∃ K, K = 52 - L := ⟨_, rfl⟩
  have hJd : J = K + d := by omega
  obtain ⟨more, hmore, hcut⟩ := cut_even (h * 2 ^ J + m) d (by rw [hlog]; omega)
  have hdpos := Nat.two_pow_pos d
  have hlow : (h * 2 ^ J + m) / 2 ^ d = h * 2 ^ K + m / 2 ^ d := by
    rw [hJd, Nat.pow_add, ← Nat.mul_assoc, Nat.mul_comm (h * 2 ^ K) (2 ^ d), Nat.mul_add_div hdpos]
  have hmd : m / 2 ^ d + 2 ≤ 2 ^ K := by
    have e2 : 2 ^ (J + L - 51) = 2 ^ d * 2 := by rw [show J + L - 51 = d + 1 by omega, Nat.pow_succ]
    have e3 : 2 ^ J = 2 ^ K * 2 ^ d := by rw [hJd, Nat.pow_add]
    rw [e2, e3] at hm
    have : (m + 2 * 2 ^ d) / 2 ^ d ≤ (2 ^ K * 2 ^ d) / 2 ^ d := Nat.div_le_div_right (by rw [Nat.mul_comm 2]; exact hm)
    rw [Nat.mul_div_cancel _ hdpos, Nat.add_mul_div_right _ _ hdpos] at this
    exact this
  have hk1 : h * 2 ^ K ≤ h * 2 ^ K + m / 2 ^ d + more := Nat.le_trans (Nat.le_add_right _ _) (Nat.le_add_right _ _)
  have hk2 : h * 2 ^ K + m / 2 ^ d + more < (h + 1) * 2 ^ K := by
    rw [Nat.succ_mul]
    clear hcut hlow hlog c1 c2 c3 b1 b2 hm hmJ hpos
    generalize m / 2 ^ d = M at *
    generalize h * 2 ^ K = P at *
    generalize 2 ^ K = Q at *
    omega
  have hLK : 2 ^ L * 2 ^ K = 2 ^ 52 := by rw [← Nat.pow_add]; congr 1; omega
  have hLK1 : 2 ^ (L + 1) * 2 ^ K = 2 ^ 53 := by rw [← Nat.pow_add]; congr 1; omega
  have g1 : 2 ^ 52 ≤ h * 2 ^ K := by rw [← hLK]; exact Nat.mul_le_mul_right _ b1
  have g2 : (h + 1) * 2 ^ K ≤ 2 ^ 53 := by rw [← hLK1]; exact Nat.mul_le_mul_right _ b2
  have g3 : 2 ^ 52 ≤ h * 2 ^ K + m / 2 ^ d + more := Nat.le_trans g1 hk1
  have g4 : h * 2 ^ K + m / 2 ^ d + more < 2 ^ 53 := Nat.lt_of_lt_of_le hk2 g2
  refine ⟨h * 2 ^ K + m / 2 ^ d + more, ?_, ?_, g3, g4⟩
  · have hne : h * 2 ^ J + m ≠ 0 := by have := Nat.mul_pos (Nat.pos_of_ne_zero h0) hpos; omega
    refine nearest_val _ _ _ (J + L) _ hne hlog (by omega) (by omega) (by omega) ?_ g3 g4
    rw [show (-(J : Int) - ((L : Int) - 52)).toNat = 0 by omega, show ((L : Int) - 52 - -(J : Int)).toNat = d by omega, Nat.shiftLeft_zero, hcut, hlow]
  · rw [← hK]
    exact Nat.div_eq_of_lt_le hk1 hk2
theorem toInt_num (kept K : Nat) (hK : K ≤ 52) (h1 : 2 ^ 52 ≤ kept) (h2 : kept < 2 ^ 53) (p : Int) (hp : p = -(K : Int)) : (Datum.number false kept p).toInt .zero = some ((kept / 2 ^ K : Nat) : Int) := by
  subst hp
  have hl : kept.log2 = 52 := log2_of h1 h2
  unfold Datum.toInt Datum.integral Toward.cut
  simp only [show (-(K : Int)).toNat = 0 by omega, show (- -(K : Int)).toNat = K by omega]
  simp [signed, Nat.shiftLeft_eq, hl, Nat.min_eq_left (show K ≤ 52 + 2 by omega)]
theorem sum_parts (h L J m : Nat) (h0 : h ≠ 0) (hL : L ≤ 52) (hJ : 53 ≤ J) : (Datum.number false (h * 2 ^ (52 - L)) ((L : Int) - 52)).sum (.number false m (-(J : Int))) = some (.number false (h * 2 ^ J + m) (-(J : Int))) := by
  have hpos : 0 < h * 2 ^ J := Nat.mul_pos (by omega) (Nat.two_pow_pos _)
  have e1 : h * 2 ^ (52 - L) * 2 ^ (L + J - 52) = h * 2 ^ J := by rw [Nat.mul_assoc, ← Nat.pow_add]; congr 2; omega
  unfold Datum.sum
  have hmin : min ((L : Int) - 52) (-(J : Int)) = -(J : Int) := by omega
  simp only [hmin, show ((L : Int) - 52 - -(J : Int)).toNat = L + J - 52 by omega, show (-(J : Int) - -(J : Int)).toNat = 0 by omega, signed, Bool.false_eq_true, if_false, Nat.shiftLeft_eq, e1, Nat.pow_zero, Nat.mul_one]
  generalize h * 2 ^ J = x at *
  rw [if_neg (by omega)]
  have h1 : decide ((x : Int) + (m : Int) < 0) = false := decide_eq_false (by omega)
  have h2 : ((x : Int) + (m : Int)).natAbs = x + m := by omega
  rw [h1, h2]
def okQ (c b : Nat) : Bool :=
  match double.div (double.nearest false b 0) c with
  | none => false
  | some q =>
    (match double.read q with
     | .number s m p => !s && decide (p ≤ -53) && decide (-1074 ≤ p) && decide (m * 4000 ≤ 3999 * 2 ^ (-p).toNat)
     | _ => false) &&
    (match double.add (double.nearest false 0 0) q with
     | none => false
     | some r => decide ((double.read r).toInt .zero = some 0))
theorem parts_ok (a b c : Nat) (ha : a < 2 ^ 39) (hq : okQ c b = true) : ∃ q r, double.div (double.nearest false b 0) c = some q ∧ double.add (double.nearest false a 0) q = some r ∧ (double.read r).toInt .zero = some (a : Int) := by
  unfold okQ at hq
  split at hq
  · cases hq
  · rename_i q hdiv
    rw [Bool.and_eq_true] at hq
    obtain ⟨hq1, hq2⟩ := hq
    by_cases h0 : a = 0
    · subst h0
      split at hq2
      · cases hq2
      · rename_i r hadd
        exact ⟨q, r, hdiv, hadd, of_decide_eq_true hq2⟩
    · split at hq1
      · rename_i s m p hr
        simp only [Bool.and_eq_true, Bool.not_eq_true', decide_eq_true_eq] at hq1
        obtain ⟨⟨⟨rfl, p1⟩, p2⟩, p3⟩ := hq1
        obtain ⟨J, rfl⟩ : ∃ J : Nat, p = -(J : Int) := ⟨(-p).toNat, by omega⟩
        rw [show (- -(J : Int)).toNat = J by omega] at p3
        have hL : a.log2 ≤ 38 := by
          have := (Nat.log2_lt h0).2 ha
          omega
        obtain ⟨L, hL'⟩ : ∃ L, a.log2 = L := ⟨_, rfl⟩
        rw [hL'] at hL
        have hm : m + 2 ^ (J + L - 51) ≤ 2 ^ J := by
          have e1 : 2 ^ (J + L - 51) ≤ 2 ^ (J - 12) := Nat.pow_le_pow_right (by omega) (by omega)
          have e2 : 2 ^ (J - 12) * 4096 = 2 ^ J := by rw [show (4096 : Nat) = 2 ^ 12 from rfl, ← Nat.pow_add]; congr 1; omega
          omega
        obtain ⟨kept, k1, k2, k3, k4⟩ := read_sum a J m L h0 hL' (by omega) (by omega) (by omega) hm
        refine ⟨q, double.nearest false (a * 2 ^ J + m) (-(J : Int)), hdiv, ?_, ?_⟩
        · unfold Format.add
          rw [read_int a L h0 hL' (by omega), hr, sum_parts a L J m h0 (by omega) (by omega)]
          rfl
        · rw [k1, toInt_num kept (52 - L) (by omega) k3 k4 _ (by omega), k2]
      · cases hq1
theorem okQ_minutes : ((List.range 60).all fun s => okQ 4768169126130614272 (s * 1000000000)) = true := by decide +kernel
theorem okQ_seconds : okQ 4741671816366391296 0 = true := by decide +kernel
end Go.Proofs.YtlfbmjgmdcfbkaaDoor
