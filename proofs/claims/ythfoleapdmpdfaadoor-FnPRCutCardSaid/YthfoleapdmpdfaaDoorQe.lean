/- What was put is read again, and not if something is missing: plain words. Conditions: as for values that are put. -/
import Derived.Test.YthfoleapdmpdfaaDoorQc
import Derived.Test.YthfoleapdmpdfaaDoorUvs
namespace Go.Proofs.YthfoleapdmpdfaaDoor
open Go.RowKit Go.Lib
set_option linter.unusedVariables false
theorem leNat_lebQ : ∀ (n x : Nat), x < 256 ^ n → Lib.leNat (leb n x) = x
  | 0, x, h => by simp at h; subst h; rfl
  | n + 1, x, h => by
    have h2 : x / 256 < 256 ^ n := by rw [Nat.pow_succ] at h; exact Nat.div_lt_of_lt_mul (by rw [Nat.mul_comm]; exact h)
    rw [leb, Lib.leNat, leNat_lebQ n (x / 256) h2, UInt8.toNat_ofNat']
    omega
theorem numM_whole {K x : Nat} (hx : x < 256 ^ K) (rest : List UInt8) : numM K (leb K x ++ rest) = some (x, 0, [], rest) := by
  rw [numM, if_neg (by rw [List.length_append, leb_length]; omega), List.take_left' (leb_length K x), List.drop_left' (leb_length K x), leNat_lebQ K x hx]
theorem numM_one (u : Nat) (rest : List UInt8) : numM 1 ([UInt8.ofNat u] ++ rest) = some (u % 256, 0, [], rest) := by
  rw [numM, if_neg (by simp)]
  simp [leNat]
theorem wideM_whole (u v : Nat) (hu : u < 18446744073709551616) (hv : v < 18446744073709551616) (rest : List UInt8) : wideM (leb 8 u ++ leb 8 v ++ rest) = some (u, v, [], rest) := by
  have h1 := leb_length 8 u
  have h2 := leb_length 8 v
  rw [wideM, if_neg (by rw [List.length_append, List.length_append, h1, h2]; omega), List.append_assoc, List.take_left' h1, List.drop_left' h1, List.take_left' h2, leNat_lebQ 8 u (by simpa using hu), leNat_lebQ 8 v (by simpa using hv), ← List.append_assoc, List.drop_left' (by rw [List.length_append, h1, h2])]
theorem varM_whole (u : Nat) (hu : u < 18446744073709551616) (rest : List UInt8) : varM (Lib.uvarint u ++ rest) = some (u, 0, [], rest) := by
  have h := uvGo_whole u 0 0 rest (by omega) (by simpa using hu)
  simp only [Nat.sub_zero, Nat.mul_zero, Nat.pow_zero, Nat.mul_one, Nat.zero_add] at h
  rw [varM, h]; rfl
theorem strM_whole (s rest : List UInt8) (hs : s.length ≤ 1000) : strM [] (Lib.uvarint s.length ++ s ++ rest) = some (0, 0, s, rest) := by
  have h := uvGo_whole s.length 0 0 (s ++ rest) (by omega) (by simp; omega)
  simp only [Nat.sub_zero, Nat.mul_zero, Nat.pow_zero, Nat.mul_one, Nat.zero_add] at h
  rw [strM, List.append_assoc, cutS_some h (by rw [List.length_append]; omega), List.take_left' rfl, List.drop_left' rfl]
  rfl
theorem rawM_whole (s rest : List UInt8) : rawM s.length (s ++ rest) = some (0, 0, s, rest) := by
  rw [rawM, cutR, if_neg (by rw [List.length_append]; omega), List.take_left' rfl, List.drop_left' rfl]
  rfl
theorem boolM_whole (u : Nat) (rest : List UInt8) : boolM ([if u = 0 then 0 else 1] ++ rest) = some (if u = 0 then 0 else 1, 0, [], rest) := by
  by_cases h : u = 0 <;> simp [h, boolM]
/-- Which Op asks for a value that was put. -/
def askOp (op : Int) : Int := if op = 17 then 16 else op
/-- What is wanted of it. -/
def wantOf (op u v : Nat) (s : List UInt8) : Nat × Nat × List UInt8 :=
  if op = 1 ∨ op = 3 ∨ op = 7 then (u % 256, 0, []) else if op = 2 then (if u = 0 then 0 else 1, 0, []) else if op = 4 ∨ op = 8 then (u % 65536, 0, [])
  else if op = 5 ∨ op = 9 ∨ op = 11 then (u % 4294967296, 0, []) else if op = 6 ∨ op = 10 ∨ op = 12 then (u, 0, []) else if op = 13 ∨ op = 14 then (u, v, []) else if op = 15 ∨ op = 16 ∨ op = 17 then (u, 0, []) else (0, 0, s)
theorem get_whole (op u v : Nat) (s rest : List UInt8) (h1 : 1 ≤ op) (h19 : op ≤ 19) (hu : u < 18446744073709551616) (hv : v < 18446744073709551616) (hs : s.length ≤ 1000) :
    getM (if op = 17 then 16 else op) (if op = 19 then s.length else 0) [] (primB op u v s ++ rest) = some ((wantOf op u v s).1, (wantOf op u v s).2.1, (wantOf op u v s).2.2, rest) := by
  have hop : op = 1 ∨ op = 2 ∨ op = 3 ∨ op = 4 ∨ op = 5 ∨ op = 6 ∨ op = 7 ∨ op = 8 ∨ op = 9 ∨ op = 10 ∨ op = 11 ∨ op = 12 ∨ op = 13 ∨ op = 14 ∨ op = 15 ∨ op = 16 ∨ op = 17 ∨ op = 18 ∨ op = 19 := by omega
  clear h1 h19
  rcases hop with rfl | rfl | rfl | rfl | rfl | rfl | rfl | rfl | rfl | rfl | rfl | rfl | rfl | rfl | rfl | rfl | rfl | rfl | rfl
  · exact numM_one u rest
  · exact boolM_whole u rest
  · exact numM_one u rest
  · exact numM_whole (K := 2) (by simp; omega) rest
  · exact numM_whole (K := 4) (by simp; omega) rest
  · have h := numM_whole (K := 8) (x := u % 18446744073709551616) (by simp; omega) rest
    rw [Nat.mod_eq_of_lt hu] at h
    show numM 8 (leb 8 (u % 18446744073709551616) ++ rest) = _
    rw [Nat.mod_eq_of_lt hu]
    exact h
  · exact numM_one u rest
  · exact numM_whole (K := 2) (by simp; omega) rest
  · exact numM_whole (K := 4) (by simp; omega) rest
  · exact numM_whole (K := 8) (by simpa using hu) rest
  · exact numM_whole (K := 4) (by simp; omega) rest
  · exact numM_whole (K := 8) (by simpa using hu) rest
  · exact wideM_whole u v hu hv rest
  · exact wideM_whole u v hu hv rest
  · exact varM_whole u hu rest
  · exact varM_whole u hu rest
  · exact varM_whole u hu rest
  · exact strM_whole s rest hs
  · exact rawM_whole s rest
theorem numM_cut {K : Nat} {d : List UInt8} (h : d.length < K) : numM K d = none := by rw [numM, if_pos h]
theorem wideM_cut {d : List UInt8} (h : d.length < 16) : wideM d = none := by rw [wideM, if_pos h]
theorem varM_cut (u m : Nat) (hu : u < 18446744073709551616) (hm : m < (Lib.uvarint u).length) : varM ((Lib.uvarint u).take m) = none := by
  have h := uvGo_cut u 0 0 m (by omega) (by simpa using hu) hm
  simp only [Nat.sub_zero] at h
  rw [varM, h]; rfl
theorem strM_cut (s : List UInt8) (m : Nat) (hs : s.length ≤ 1000) (hm : m < (Lib.uvarint s.length ++ s).length) : strM [] ((Lib.uvarint s.length ++ s).take m) = none := by
  by_cases h : m < (Lib.uvarint s.length).length
  · have hc := uvGo_cut s.length 0 0 m (by omega) (by simp; omega) h
    simp only [Nat.sub_zero] at hc
    rw [List.take_append_of_le_length (by omega), strM, cutS_none hc]; rfl
  · rw [List.length_append] at hm
    have hw := uvGo_whole s.length 0 0 (s.take (m - (Lib.uvarint s.length).length)) (by omega) (by simp; omega)
    simp only [Nat.sub_zero, Nat.mul_zero, Nat.pow_zero, Nat.mul_one, Nat.zero_add] at hw
    rw [List.take_append, List.take_of_length_le (by omega), strM, cutS_short hw (by rw [List.length_take]; omega)]; rfl
theorem get_cut (op u v : Nat) (s : List UInt8) (m : Nat) (h1 : 1 ≤ op) (h19 : op ≤ 19) (hu : u < 18446744073709551616) (hs : s.length ≤ 1000) (hm : m < (primB op u v s).length) :
    getM (if op = 17 then 16 else op) (if op = 19 then s.length else 0) [] ((primB op u v s).take m) = none := by
  have hop : op = 1 ∨ op = 2 ∨ op = 3 ∨ op = 4 ∨ op = 5 ∨ op = 6 ∨ op = 7 ∨ op = 8 ∨ op = 9 ∨ op = 10 ∨ op = 11 ∨ op = 12 ∨ op = 13 ∨ op = 14 ∨ op = 15 ∨ op = 16 ∨ op = 17 ∨ op = 18 ∨ op = 19 := by omega
  have hlt : ((primB op u v s).take m).length < (primB op u v s).length := by rw [List.length_take]; omega
  clear h1 h19
  rcases hop with rfl | rfl | rfl | rfl | rfl | rfl | rfl | rfl | rfl | rfl | rfl | rfl | rfl | rfl | rfl | rfl | rfl | rfl | rfl
  · exact numM_cut (K := 1) hlt
  · have h0 : m = 0 := by simp [primB] at hm; omega
    subst h0
    rfl
  · exact numM_cut (K := 1) hlt
  · exact numM_cut (K := 2) hlt
  · exact numM_cut (K := 4) hlt
  · exact numM_cut (K := 8) hlt
  · exact numM_cut (K := 1) hlt
  · exact numM_cut (K := 2) hlt
  · exact numM_cut (K := 4) hlt
  · exact numM_cut (K := 8) hlt
  · exact numM_cut (K := 4) hlt
  · exact numM_cut (K := 8) hlt
  · exact wideM_cut hlt
  · exact wideM_cut hlt
  · exact varM_cut u m hu hm
  · exact varM_cut u m hu hm
  · exact varM_cut u m hu hm
  · exact strM_cut s m hs hm
  · have hl : (s.take m).length < s.length := hlt
    show rawM s.length (s.take m) = none
    rw [rawM, cutR, if_pos hl]; rfl
end Go.Proofs.YthfoleapdmpdfaaDoor
