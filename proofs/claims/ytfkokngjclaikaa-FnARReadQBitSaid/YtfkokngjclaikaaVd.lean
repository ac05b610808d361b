/- The bytes of a column of vectors, plane by plane: plain words. No conditions but those that each theorem names. -/
import Derived.Test.YtfkokngjclaikaaVb
namespace Go.Proofs.Ytfkokngjclaikaa
open Go.RowKit Go.Lib
set_option linter.unusedVariables false
/-- A byte of a plane: the bits s of the first k numbers. -/
def pb (nb : Nat) (v : List Nat) (s j : Nat) : Nat → Nat
  | 0 => 0
  | k + 1 => if nb - 1 - k / 8 = j ∧ (v.getD k 0).testBit s = true then pb nb v s j k ||| 2 ^ (k % 8) else pb nb v s j k
theorem pow8 (k : Nat) : 2 ^ (k % 8) ≤ 128 ∧ 2 ^ (k % 8) < 256 := by
  have h : k % 8 < 8 := Nat.mod_lt _ (by omega)
  have h2 : 2 ^ (k % 8) ≤ 2 ^ 7 := Nat.pow_le_pow_right (by omega) (by omega)
  omega
theorem pb_lt (nb : Nat) (v : List Nat) (s j : Nat) : ∀ k, pb nb v s j k < 256
  | 0 => by simp [pb]
  | k + 1 => by
    have ih := pb_lt nb v s j k
    rw [pb]
    split
    · exact Nat.or_lt_two_pow (n := 8) ih (pow8 k).2
    · exact ih
/-- What stands in a byte's bits. -/
theorem pb_bit (nb : Nat) (v : List Nat) (s j t : Nat) (ht : t < 8) : ∀ k, (pb nb v s j k).testBit t = true ↔ ∃ e, e < k ∧ nb - 1 - e / 8 = j ∧ e % 8 = t ∧ (v.getD e 0).testBit s = true
  | 0 => by simp [pb]
  | k + 1 => by
    have ih := pb_bit nb v s j t ht k
    have htb : (2 ^ (k % 8)).testBit t = decide (k % 8 = t) := Nat.testBit_two_pow
    rw [pb]
    split
    · rename_i h
      rw [Nat.testBit_or, htb, Bool.or_eq_true, decide_eq_true_eq, ih]
      constructor
      · rintro (⟨e, h1, h2⟩ | h1)
        · exact ⟨e, by omega, h2⟩
        · exact ⟨k, by omega, h.1, h1, h.2⟩
      · rintro ⟨e, h1, h2, h3, h4⟩
        by_cases hek : e = k
        · subst hek; exact .inr h3
        · exact .inl ⟨e, by omega, h2, h3, h4⟩
    · rename_i h
      rw [ih]
      constructor
      · rintro ⟨e, h1, h2⟩
        exact ⟨e, by omega, h2⟩
      · rintro ⟨e, h1, h2, h3, h4⟩
        by_cases hek : e = k
        · subst hek; exact absurd ⟨h2, h4⟩ h
        · exact ⟨e, by omega, h2, h3, h4⟩
/-- The bit of an element is read again. -/
theorem pb_get {nb n : Nat} {v : List Nat} {s e : Nat} (hn : nb = (n + 7) / 8) (he : e < n) : pb nb v s (nb - 1 - e / 8) n / 2 ^ (e % 8) % 2 = (v.getD e 0) / 2 ^ s % 2 := by
  have h := pb_bit nb v s (nb - 1 - e / 8) (e % 8) (Nat.mod_lt _ (by omega)) n
  have h2 : (pb nb v s (nb - 1 - e / 8) n).testBit (e % 8) = (v.getD e 0).testBit s := by
    rw [Bool.eq_iff_iff, h]
    constructor
    · rintro ⟨x, h1, h2, h3, h4⟩
      have : x = e := by omega
      subst this; exact h4
    · exact fun h4 => ⟨e, he, rfl, rfl, h4⟩
  rw [Nat.testBit_eq_decide_div_mod_eq, Nat.testBit_eq_decide_div_mod_eq, decide_eq_decide] at h2
  omega
section
variable (W m nb n : Nat) (q : Nat → List Nat)
/-- A byte while the planes are made: rows below r are done, planes below p of row r, the first k elements of plane p. -/
def pst (r p k idx : Nat) : Nat :=
  if idx / nb % m < r then pb nb (q (idx / nb % m)) (W - 1 - idx / (m * nb)) (idx % nb) n
  else if idx / nb % m = r ∧ idx / (m * nb) < p then pb nb (q r) (W - 1 - idx / (m * nb)) (idx % nb) n
  else if idx / nb % m = r ∧ idx / (m * nb) = p then pb nb (q r) (W - 1 - p) (idx % nb) k else 0
def pfin (idx : Nat) : Nat := pb nb (q (idx / nb % m)) (W - 1 - idx / (m * nb)) (idx % nb) n
variable {W m nb n q}
theorem pst_lt (r p k idx : Nat) : pst W m nb n q r p k idx < 256 := by
  unfold pst
  split
  · exact pb_lt _ _ _ _ _
  · split
    · exact pb_lt _ _ _ _ _
    · split
      · exact pb_lt _ _ _ _ _
      · omega
theorem pst_start (idx : Nat) : pst W m nb n q 0 0 0 idx = 0 := by
  unfold pst
  rw [if_neg (Nat.not_lt_zero _), if_neg (fun h => absurd h.2 (Nat.not_lt_zero _))]
  split <;> simp [pb]
theorem pst_plane (r p idx : Nat) : pst W m nb n q r p n idx = pst W m nb n q r (p + 1) 0 idx := by
  unfold pst
  by_cases h1 : idx / nb % m < r
  · rw [if_pos h1, if_pos h1]
  · rw [if_neg h1, if_neg h1]
    by_cases h2 : idx / nb % m = r ∧ idx / (m * nb) < p
    · rw [if_pos h2, if_pos ⟨h2.1, by omega⟩]
    · rw [if_neg h2]
      by_cases h3 : idx / nb % m = r ∧ idx / (m * nb) = p
      · rw [if_pos h3, if_pos ⟨h3.1, by omega⟩, h3.2]
      · rw [if_neg h3, if_neg (by omega)]
        split <;> simp [pb]
theorem pst_row (r idx : Nat) (hm : 0 < m) (hnb : 0 < nb) (hi : idx < W * m * nb) : pst W m nb n q r W 0 idx = pst W m nb n q (r + 1) 0 0 idx := by
  have hp : idx / (m * nb) < W := by rw [Nat.div_lt_iff_lt_mul (Nat.mul_pos hm hnb), ← Nat.mul_assoc]; exact hi
  unfold pst
  by_cases h1 : idx / nb % m < r
  · rw [if_pos h1, if_pos (by omega)]
  · rw [if_neg h1]
    by_cases h2 : idx / nb % m = r
    · rw [if_pos ⟨h2, hp⟩, if_pos (by omega), h2]
    · rw [if_neg (fun h => h2 h.1), if_neg (fun h => h2 h.1), if_neg (by omega), if_neg (fun h => absurd h.2 (Nat.not_lt_zero _))]
      split <;> simp [pb]
theorem pst_end (idx : Nat) (hm : 0 < m) : pst W m nb n q m 0 0 idx = pfin W m nb n q idx := by
  unfold pst pfin
  rw [if_pos (Nat.mod_lt _ hm)]
theorem dec_idx {P R J : Nat} (hR : R < m) (hJ : J < nb) : ((P * m + R) * nb + J) / (m * nb) = P ∧ ((P * m + R) * nb + J) / nb % m = R ∧ ((P * m + R) * nb + J) % nb = J := by
  have h1 : ((P * m + R) * nb + J) / nb = P * m + R := by
    rw [Nat.add_comm, Nat.add_mul_div_right _ _ (by omega), Nat.div_eq_of_lt hJ, Nat.zero_add]
  refine ⟨?_, ?_, ?_⟩
  · rw [Nat.mul_comm m nb, ← Nat.div_div_eq_div_mul, h1, Nat.add_comm, Nat.add_mul_div_right _ _ (by omega), Nat.div_eq_of_lt hR, Nat.zero_add]
  · rw [h1, Nat.add_comm, Nat.add_mul_mod_self_right, Nat.mod_eq_of_lt hR]
  · rw [Nat.add_comm, Nat.add_mul_mod_self_right, Nat.mod_eq_of_lt hJ]
theorem enc_idx (idx : Nat) : idx = ((idx / (m * nb)) * m + idx / nb % m) * nb + idx % nb := by
  have h1 := Nat.div_add_mod idx nb
  have h2 := Nat.div_add_mod (idx / nb) m
  have h3 : idx / nb / m = idx / (m * nb) := by rw [Nat.div_div_eq_div_mul, Nat.mul_comm]
  rw [h3] at h2
  rw [Nat.mul_comm (idx / (m * nb)) m, h2, Nat.mul_comm]
  exact h1.symm
theorem pst_step0 {r p k : Nat} (h : ((q r).getD k 0).testBit (W - 1 - p) = false) (idx : Nat) : pst W m nb n q r p (k + 1) idx = pst W m nb n q r p k idx := by
  unfold pst
  have : ∀ j, pb nb (q r) (W - 1 - p) j (k + 1) = pb nb (q r) (W - 1 - p) j k := fun j => by rw [pb, if_neg (by rw [h]; simp)]
  rw [this]
theorem pst_step1 {r p k : Nat} (hr : r < m) (hk : k < n) (hnb : nb = (n + 7) / 8) (h : ((q r).getD k 0).testBit (W - 1 - p) = true) (idx : Nat) : pst W m nb n q r p (k + 1) idx = if idx = (p * m + r) * nb + (nb - 1 - k / 8) then pst W m nb n q r p k idx ||| 2 ^ (k % 8) else pst W m nb n q r p k idx := by
  have hj : nb - 1 - k / 8 < nb := by omega
  obtain ⟨d1, d2, d3⟩ := dec_idx (m := m) (nb := nb) (P := p) hr hj
  by_cases hi : idx = (p * m + r) * nb + (nb - 1 - k / 8)
  · rw [if_pos hi]
    unfold pst
    rw [hi, d1, d2, d3, if_neg (by omega), if_neg (by omega), if_pos ⟨rfl, rfl⟩, if_neg (by omega), if_neg (by omega), if_pos ⟨rfl, rfl⟩, pb, if_pos ⟨rfl, h⟩]
  · rw [if_neg hi]
    unfold pst
    by_cases h1 : idx / nb % m < r
    · rw [if_pos h1, if_pos h1]
    · rw [if_neg h1, if_neg h1]
      by_cases h2 : idx / nb % m = r ∧ idx / (m * nb) < p
      · rw [if_pos h2, if_pos h2]
      · rw [if_neg h2, if_neg h2]
        by_cases h3 : idx / nb % m = r ∧ idx / (m * nb) = p
        · rw [if_pos h3, if_pos h3, pb, if_neg]
          rintro ⟨h4, _⟩
          refine hi ?_
          have h5 := enc_idx (m := m) (nb := nb) idx
          rw [h3.1, h3.2, ← h4] at h5
          exact h5
        · rw [if_neg h3, if_neg h3]
end
/-- Bytes by a function, as cells. -/
def fcells (T : Nat) (f : Nat → Nat) : Array Value := ((List.range T).map fun i => Value.int .u8 (f i : Int)).toArray
theorem fcells_size (T : Nat) (f : Nat → Nat) : (fcells T f).size = T := by simp [fcells]
theorem fcells_get {T : Nat} {f : Nat → Nat} {i : Nat} (h : i < T) : (fcells T f)[i]? = some (.int .u8 (f i : Int)) := by
  simp [fcells, List.getElem?_range h]
theorem fcells_put {T : Nat} {f : Nat → Nat} (i x : Nat) : (fcells T f).setIfInBounds i (.int .u8 (x : Int)) = fcells T (fun j => if j = i then x else f j) := by
  apply Array.ext_getElem?
  intro j
  rw [Array.getElem?_setIfInBounds]
  by_cases hj : j < T
  · rw [fcells_get hj, fcells_get hj, fcells_size]
    by_cases h : i = j
    · subst h; simp [hj]
    · rw [if_neg h, if_neg (by omega)]
  · have h1 : ∀ f, (fcells T f)[j]? = none := fun f => Array.getElem?_eq_none (by rw [fcells_size]; omega)
    rw [h1, h1, fcells_size]
    by_cases h : i = j
    · subst h; simp [hj]
    · rw [if_neg h]
theorem fcells_congr {T : Nat} {f g : Nat → Nat} (h : ∀ i, i < T → f i = g i) : fcells T f = fcells T g := by
  unfold fcells
  congr 1
  refine List.map_congr_left fun i hi => ?_
  rw [h i (List.mem_range.1 hi)]
/-- The bytes of a column of vectors. -/
def qbytes (W m nb n : Nat) (q : Nat → List Nat) : List UInt8 := (List.range (W * m * nb)).map fun idx => UInt8.ofNat (pfin W m nb n q idx)
theorem qbytes_length (W m nb n : Nat) (q : Nat → List Nat) : (qbytes W m nb n q).length = W * m * nb := by simp [qbytes]
theorem qbytes_cells (W m nb n : Nat) (q : Nat → List Nat) : (fcells (W * m * nb) (pfin W m nb n q)).toList = Lib.byteCells (qbytes W m nb n q) := by
  simp only [fcells, Lib.byteCells, qbytes, List.map_map]
  refine List.map_congr_left fun i _ => ?_
  show Value.int .u8 _ = Value.int .u8 ((UInt8.ofNat _).toNat : Int)
  rw [UInt8.toNat_ofNat', Nat.mod_eq_of_lt]
  exact pb_lt _ _ _ _ _
end Go.Proofs.Ytfkokngjclaikaa
