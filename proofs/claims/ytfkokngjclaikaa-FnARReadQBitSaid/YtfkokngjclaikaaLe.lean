/- Contracts of the little-endian stores and loads of Go's library: which cells each writes, which number each reads. Conditions: the slice has room; its block is known whole. -/
import Derived.Test.YtfkokngjclaikaaMem
import Derived.Test.YtfkokngjclaikaaRows
import Derived.WalkSpells
import Derived.WalkLawsBesides
import Derived.Deep.RegionLaw
import Derived.Deep.DeepMust
namespace Go.Proofs.Ytfkokngjclaikaa
open Go.RowKit

/-- The lowest n bytes of x, the lowest one first. -/
def leb : Nat → Nat → List UInt8
  | 0, _ => []
  | n + 1, x => UInt8.ofNat x :: leb n (x / 256)
theorem leb_length (n x : Nat) : (leb n x).length = n := by
  induction n generalizing x with
  | zero => rfl
  | succ n ih => simp [leb, ih]
theorem cell_ofNat (n : Nat) : (Value.int .u8 ((UInt8.ofNat n).toNat : Int)) = Value.int .u8 ((n : Int) % 256) := by
  simp [UInt8.toNat_ofNat']

/-- The cells vs laid from place o on. -/
def puts (cs : Array Value) (o : Nat) : List Value → Array Value
  | [] => cs
  | v :: vs => puts (cs.setIfInBounds o v) (o + 1) vs
theorem puts_size (cs : Array Value) (o : Nat) (vs : List Value) : (puts cs o vs).size = cs.size := by
  induction vs generalizing cs o with
  | nil => rfl
  | cons v vs ih => simp [puts, ih]
theorem puts_get (vs : List Value) : ∀ (cs : Array Value) (o i : Nat), o + vs.length ≤ cs.size → (puts cs o vs)[i]? = if o ≤ i ∧ i < o + vs.length then vs[i - o]? else cs[i]? := by
  induction vs with
  | nil => intro cs o i _; simp [puts]; omega
  | cons v vs ih =>
    intro cs o i h
    simp only [List.length_cons] at h
    rw [puts, ih _ _ _ (by simp; omega), Array.getElem?_setIfInBounds]
    by_cases h1 : i = o
    · subst h1
      rw [if_neg (by omega), if_pos rfl, if_pos (by omega), if_pos (by simp only [List.length_cons]; omega)]
      simp
    · by_cases h2 : o + 1 ≤ i ∧ i < o + 1 + vs.length
      · rw [if_pos h2, if_pos (by simp only [List.length_cons]; omega)]
        rw [show i - o = (i - (o + 1)) + 1 by omega]
        simp
      · rw [if_neg h2, if_neg (by omega), if_neg (by simp only [List.length_cons]; omega)]
theorem puts_list (cs : Array Value) (o : Nat) (vs : List Value) (h : o + vs.length ≤ cs.size) : (puts cs o vs).toList = cs.toList.take o ++ vs ++ cs.toList.drop (o + vs.length) := by
  apply List.ext_getElem?
  intro i
  rw [Array.getElem?_toList, puts_get vs cs o i h]
  by_cases h1 : i < o
  · rw [if_neg (by omega), List.append_assoc, List.getElem?_append_left (by simp; omega), List.getElem?_take, if_pos h1, Array.getElem?_toList]
  · by_cases h2 : i < o + vs.length
    · rw [if_pos (by omega), List.append_assoc, List.getElem?_append_right (by simp; omega), List.getElem?_append_left (by simp; omega)]
      congr 1
      simp; omega
    · rw [if_neg (by omega), List.getElem?_append_right (by simp; omega), List.getElem?_drop, Array.getElem?_toList]
      congr 1
      simp; omega




end Go.Proofs.Ytfkokngjclaikaa
