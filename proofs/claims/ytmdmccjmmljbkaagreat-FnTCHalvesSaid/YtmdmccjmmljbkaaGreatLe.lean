/- Contracts of the little-endian stores and loads of Go's library: which cells each writes, which number each reads. Conditions: the slice has room; its block is known whole. -/
import Derived.Test.YtmdmccjmmljbkaaGreatMem
import Derived.Test.YtmdmccjmmljbkaaGreatRows
import Derived.WalkSpells
import Derived.WalkLawsBesides
import Derived.Deep.RegionLaw
import Derived.Deep.DeepMust
namespace Go.Proofs.YtmdmccjmmljbkaaGreat
open Go.RowKit

/-- The lowest n bytes of x, the lowest one first. -/
def leb : Nat → Nat → List UInt8
  | 0, _ => []
  | n + 1, x => UInt8.ofNat x :: leb n (x / 256)
theorem leb_length (n x : Nat) : (leb n x).length = n := by
  induction n generalizing x with
  | zero => rfl
  | succ n ih => simp [leb, ih]
theorem cell_ofNat (n : Nat) : (Value.int .u8 ((UInt8.ofNat n).toNat : Int)) = Value.int .u8 ((n : Int) % 256) := by
  simp [UInt8.toNat_ofNat']

/-- The cells vs laid from place o on. -/
def puts (cs : Array Value) (o : Nat) : List Value → Array Value
  | [] => cs
  | v :: vs => puts (cs.setIfInBounds o v) (o + 1) vs
theorem puts_size (cs : Array Value) (o : Nat) (vs : List Value) : (puts cs o vs).size = cs.size := by
  induction vs generalizing cs o with
  | nil => rfl
  | cons v vs ih => simp [puts, ih]
theorem puts_get (vs : List Value) : ∀ (cs : Array Value) (o i : Nat), o + vs.length ≤ cs.size → (puts cs o vs)[i]? = if o ≤ i ∧ i < o + vs.length then vs[i - o]? else cs[i]? := by
  induction vs with
  | nil => intro cs o i _; simp [puts]; omega
  | cons v vs ih =>
    intro cs o i h
    simp only [List.length_cons] at h
    rw [puts, ih _ _ _ (by simp; omega), Array.getElem?_setIfInBounds]
    by_cases h1 : i = o
    · subst h1
      rw [if_neg (by omega), if_pos rfl, if_pos (by omega), if_pos (by simp only [List.length_cons]; omega)]
      simp
    · by_cases h2 : o + 1 ≤ i ∧ i < o + 1 + vs.length
      · rw [if_pos h2, if_pos (by simp only [List.length_cons]; omega)]
        rw [show i - o = (i - (o + 1)) + 1 by omega]
        simp
      · rw [if_neg h2, if_neg (by omega), if_neg (by simp only [List.length_cons]; omega)]
theorem puts_list (cs : Array Value) (o : Nat) (vs : List Value) (h : o + vs.length ≤ cs.size) : (puts cs o vs).toList = cs.toList.take o ++ vs ++ cs.toList.drop (o + vs.length) := by
  apply List.ext_getElem?
  intro i
  rw [Array.getElem?_toList, puts_get vs cs o i h]
  by_cases h1 : i < o
  · rw [if_neg (by omega), List.append_assoc, List.getElem?_append_left (by simp; omega), List.getElem?_take, if_pos h1, Array.getElem?_toList]
  · by_cases h2 : i < o + vs.length
    · rw [if_pos (by omega), List.append_assoc, List.getElem?_append_right (by simp; omega), List.getElem?_append_left (by simp; omega)]
      congr 1
      simp; omega
    · rw [if_neg (by omega), List.getElem?_append_right (by simp; omega), List.getElem?_drop, Array.getElem?_toList]
      congr 1
      simp; omega

set_option maxHeartbeats 400000 in
theorem lePut16 (w : World) (g o n c : Nat) (t : TypeId) (cs : Array Value) (x : Nat) (hW : Whole w g t cs) (hn : 2 ≤ n) (ho : o + 2 ≤ cs.size) :
    Calls Tryz.prog 106 #[.agg #[], .slice (some ⟨g, o, none⟩) n c, .int .u16 x] w fun e w' =>
      e = .returned (.tuple #[]) ∧ Whole w' g t (puts cs o (Lib.byteCells (leb 2 x))) ∧ Keeps (fun k => k = g) w w' := by
  have hlt := hW.lt
  have hb : Lib.byteCells (leb 2 x) = [.int .u8 ((x : Int) % 256), .int .u8 ((x : Int) / 256 % 256)] := by
    simp only [Lib.byteCells, leb, List.map_cons, List.map_nil, cell_ofNat]
    rfl
  rw [hb]
  clear hb
  obtain ⟨v0, h0⟩ : ∃ v, cs[o]? = some v := ⟨_, Array.getElem?_eq_getElem (by omega)⟩
  obtain ⟨v1, h1⟩ : ∃ v, cs[o + 1]? = some v := ⟨_, Array.getElem?_eq_getElem (by omega)⟩
  have c0 : w.cell? ⟨g, o, none⟩ = some v0 := (hW.cell _).trans h0
  have c1 : w.cell? ⟨g, o + 1, none⟩ = some v1 := (hW.cell _).trans h1
  have f0 := hW.frozen (o)
  have f1 := hW.frozen (o + 1)
  clear h0 h1
  go_enter Tryz.func106, Tryz.ntmps106
  go_wp2
  go_end0
  exact ⟨rfl, ((hW.put _ _).put _ _).alloc _, (((Keeps.refl (fun k => k = g) w).setCell (.inl rfl) _).setCell (.inl rfl) _).alloc _⟩

set_option maxHeartbeats 400000 in
theorem lePut32 (w : World) (g o n c : Nat) (t : TypeId) (cs : Array Value) (x : Nat) (hW : Whole w g t cs) (hn : 4 ≤ n) (ho : o + 4 ≤ cs.size) :
    Calls Tryz.prog 114 #[.agg #[], .slice (some ⟨g, o, none⟩) n c, .int .u32 x] w fun e w' =>
      e = .returned (.tuple #[]) ∧ Whole w' g t (puts cs o (Lib.byteCells (leb 4 x))) ∧ Keeps (fun k => k = g) w w' := by
  have hlt := hW.lt
  have hb : Lib.byteCells (leb 4 x) = [.int .u8 ((x : Int) % 256), .int .u8 ((x : Int) / 256 % 256), .int .u8 ((x : Int) / 65536 % 256), .int .u8 ((x : Int) / 16777216 % 256)] := by
    simp only [Lib.byteCells, leb, List.map_cons, List.map_nil, cell_ofNat, Nat.div_div_eq_div_mul]
    rfl
  rw [hb]
  clear hb
  obtain ⟨v0, h0⟩ : ∃ v, cs[o]? = some v := ⟨_, Array.getElem?_eq_getElem (by omega)⟩
  obtain ⟨v1, h1⟩ : ∃ v, cs[o + 1]? = some v := ⟨_, Array.getElem?_eq_getElem (by omega)⟩
  obtain ⟨v2, h2⟩ : ∃ v, cs[o + 2]? = some v := ⟨_, Array.getElem?_eq_getElem (by omega)⟩
  obtain ⟨v3, h3⟩ : ∃ v, cs[o + 3]? = some v := ⟨_, Array.getElem?_eq_getElem (by omega)⟩
  have c0 : w.cell? ⟨g, o, none⟩ = some v0 := (hW.cell _).trans h0
  have c1 : w.cell? ⟨g, o + 1, none⟩ = some v1 := (hW.cell _).trans h1
  have c2 : w.cell? ⟨g, o + 2, none⟩ = some v2 := (hW.cell _).trans h2
  have c3 : w.cell? ⟨g, o + 3, none⟩ = some v3 := (hW.cell _).trans h3
  have f0 := hW.frozen (o)
  have f1 := hW.frozen (o + 1)
  have f2 := hW.frozen (o + 2)
  have f3 := hW.frozen (o + 3)
  clear h0 h1 h2 h3
  go_enter Tryz.func114, Tryz.ntmps114
  go_wp2
  go_end0
  exact ⟨rfl, ((((hW.put _ _).put _ _).put _ _).put _ _).alloc _, (((((Keeps.refl (fun k => k = g) w).setCell (.inl rfl) _).setCell (.inl rfl) _).setCell (.inl rfl) _).setCell (.inl rfl) _).alloc _⟩

set_option maxHeartbeats 400000 in
theorem lePut64 (w : World) (g o n c : Nat) (t : TypeId) (cs : Array Value) (x : Nat) (hW : Whole w g t cs) (hn : 8 ≤ n) (ho : o + 8 ≤ cs.size) :
    Calls Tryz.prog 128 #[.agg #[], .slice (some ⟨g, o, none⟩) n c, .int .u64 x] w fun e w' =>
      e = .returned (.tuple #[]) ∧ Whole w' g t (puts cs o (Lib.byteCells (leb 8 x))) ∧ Keeps (fun k => k = g) w w' := by
  have hlt := hW.lt
  have hb : Lib.byteCells (leb 8 x) = [.int .u8 ((x : Int) % 256), .int .u8 ((x : Int) / 256 % 256), .int .u8 ((x : Int) / 65536 % 256), .int .u8 ((x : Int) / 16777216 % 256), .int .u8 ((x : Int) / 4294967296 % 256), .int .u8 ((x : Int) / 1099511627776 % 256), .int .u8 ((x : Int) / 281474976710656 % 256), .int .u8 ((x : Int) / 72057594037927936 % 256)] := by
    simp only [Lib.byteCells, leb, List.map_cons, List.map_nil, cell_ofNat, Nat.div_div_eq_div_mul]
    rfl
  rw [hb]
  clear hb
  obtain ⟨v0, h0⟩ : ∃ v, cs[o]? = some v := ⟨_, Array.getElem?_eq_getElem (by omega)⟩
  obtain ⟨v1, h1⟩ : ∃ v, cs[o + 1]? = some v := ⟨_, Array.getElem?_eq_getElem (by omega)⟩
  obtain ⟨v2, h2⟩ : ∃ v, cs[o + 2]? = some v := ⟨_, Array.getElem?_eq_getElem (by omega)⟩
  obtain ⟨v3, h3⟩ : ∃ v, cs[o + 3]? = some v := ⟨_, Array.getElem?_eq_getElem (by omega)⟩
  obtain ⟨v4, h4⟩ : ∃ v, cs[o + 4]? = some v := ⟨_, Array.getElem?_eq_getElem (by omega)⟩
  obtain ⟨v5, h5⟩ : ∃ v, cs[o + 5]? = some v := ⟨_, Array.getElem?_eq_getElem (by omega)⟩
  obtain ⟨v6, h6⟩ : ∃ v, cs[o + 6]? = some v := ⟨_, Array.getElem?_eq_getElem (by omega)⟩
  obtain ⟨v7, h7⟩ : ∃ v, cs[o + 7]? = some v := ⟨_, Array.getElem?_eq_getElem (by omega)⟩
  have c0 : w.cell? ⟨g, o, none⟩ = some v0 := (hW.cell _).trans h0
  have c1 : w.cell? ⟨g, o + 1, none⟩ = some v1 := (hW.cell _).trans h1
  have c2 : w.cell? ⟨g, o + 2, none⟩ = some v2 := (hW.cell _).trans h2
  have c3 : w.cell? ⟨g, o + 3, none⟩ = some v3 := (hW.cell _).trans h3
  have c4 : w.cell? ⟨g, o + 4, none⟩ = some v4 := (hW.cell _).trans h4
  have c5 : w.cell? ⟨g, o + 5, none⟩ = some v5 := (hW.cell _).trans h5
  have c6 : w.cell? ⟨g, o + 6, none⟩ = some v6 := (hW.cell _).trans h6
  have c7 : w.cell? ⟨g, o + 7, none⟩ = some v7 := (hW.cell _).trans h7
  have f0 := hW.frozen (o)
  have f1 := hW.frozen (o + 1)
  have f2 := hW.frozen (o + 2)
  have f3 := hW.frozen (o + 3)
  have f4 := hW.frozen (o + 4)
  have f5 := hW.frozen (o + 5)
  have f6 := hW.frozen (o + 6)
  have f7 := hW.frozen (o + 7)
  clear h0 h1 h2 h3 h4 h5 h6 h7
  go_enter Tryz.func128, Tryz.ntmps128
  go_wp2
  go_end0
  exact ⟨rfl, ((((((((hW.put _ _).put _ _).put _ _).put _ _).put _ _).put _ _).put _ _).put _ _).alloc _, (((((((((Keeps.refl (fun k => k = g) w).setCell (.inl rfl) _).setCell (.inl rfl) _).setCell (.inl rfl) _).setCell (.inl rfl) _).setCell (.inl rfl) _).setCell (.inl rfl) _).setCell (.inl rfl) _).setCell (.inl rfl) _).alloc _⟩

end Go.Proofs.YtmdmccjmmljbkaaGreat
