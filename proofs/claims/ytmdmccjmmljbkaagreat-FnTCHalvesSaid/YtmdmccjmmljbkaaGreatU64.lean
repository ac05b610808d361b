/- A column of numbers of 64 bits encoded into a buffer: each number's eight bytes. Conditions: sizes far below the machine's; the column's row lies apart from the buffer's. -/
import Derived.Test.YtmdmccjmmljbkaaGreatZer
import Derived.Test.YtmdmccjmmljbkaaGreatPut
import Derived.Test.YtmdmccjmmljbkaaGreatSc
import Derived.Deep.RegionWith
import Derived.Deep.RegionLaw
namespace Go.Proofs.YtmdmccjmmljbkaaGreat
open Go.RowKit Go.Lib
set_option linter.unusedVariables false
/-- A slice of bytes of the call's own, cell by cell: its block. -/
theorem own_whole {w : World} {base n c : Nat} {e : TypeId} {A : Option Addr} {xs : List Value} (h : w.ownsRow base e 1 (.slice A n c) n xs) (hn : 0 < n) :
    ∃ g cs, A = some ⟨g, 0, none⟩ ∧ base ≤ g ∧ Whole w g e cs ∧ n ≤ c ∧ c ≤ maxLen ∧ cs.size = c ∧ cs.toList.take n = xs := by
  rcases h.2 with ⟨_, h0⟩ | ⟨g, cap, cur, hv, hb, hg, h1, h2, h3, h4⟩
  · omega
  · injection hv with hA hN hC
    subst hC
    rw [Nat.mul_one] at h3 h4
    exact ⟨g, cur, hA, hb, hg, h1, h2, h3, h4⟩
theorem own_puts {w' : World} {base n c g o : Nat} {e : TypeId} {cs : Array Value} {xs vs : List Value} (hb : base ≤ g) (hW : Whole w' g e (puts cs o vs)) (h1 : n ≤ c) (h2 : c ≤ maxLen) (h3 : cs.size = c) (h4 : cs.toList.take n = xs) (ho : o + vs.length ≤ n) :
    w'.ownsRow base e 1 (.slice (some ⟨g, 0, none⟩) n c) n (xs.take o ++ vs ++ xs.drop (o + vs.length)) := by
  have hxl : xs.length = n := by rw [← h4, List.length_take, Array.length_toList]; omega
  refine ⟨by simp only [List.length_append, List.length_take, List.length_drop]; omega, .inr ⟨g, c, _, rfl, hb, hW, h1, h2, by rw [puts_size, h3, Nat.mul_one], ?_⟩⟩
  have hl : (cs.toList.take o).length = o := by rw [List.length_take, Array.length_toList]; omega
  rw [puts_list cs o vs (by omega), Nat.mul_one, List.take_append, List.take_append, ← h4, List.take_take, List.take_take, Nat.min_eq_right (by omega : o ≤ n), Nat.min_eq_left (by omega : o ≤ n), List.drop_take, List.length_append]
  have hd : n - (cs.toList.take o ++ vs).length = n - (o + vs.length) := by rw [List.length_append, hl]
  rw [show (cs.toList.take o).length + vs.length = o + vs.length by rw [hl]] 
  rw [List.take_of_length_le (l := vs) (by rw [hl]; omega)]
/-- Eight bytes of a number laid into a slice that the call owns. -/
theorem lePut64In (w : World) (base n c o x g : Nat) (xs : List Value) (h : w.ownsRow base 5 1 (.slice (some ⟨g, 0, none⟩) n c) n xs) (ho : o + 8 ≤ n) (k : Nat) :
    Calls Tryz.prog 128 #[.agg #[], .slice (some ⟨g, o, none⟩) 8 k, .int .u64 x] w fun e w' => e = .returned (.tuple #[]) ∧
      w'.ownsRow base 5 1 (.slice (some ⟨g, 0, none⟩) n c) n (xs.take o ++ Lib.byteCells (leb 8 x) ++ xs.drop (o + 8)) ∧ Keeps (fun k => k = g) w w' := by
  obtain ⟨g', cs, hg, hb, hW, h1, h2, h3, h4⟩ := own_whole h (by omega)
  have hgg : g = g' := by injection hg with hg; injection hg
  subst hgg
  refine (lePut64 w g o 8 k 5 cs x hW (Nat.le_refl _) (by omega)).mono ?_
  rintro e w' ⟨rfl, hW', hK⟩
  have hl8 : (Lib.byteCells (leb 8 x)).length = 8 := by rw [Lib.byteCells_length, leb_length]
  have := own_puts hb hW' h1 h2 h3 h4 (by omega)
  rw [hl8] at this
  exact ⟨rfl, this, hK⟩
/-- The bytes of these numbers. -/
def u64s (xs : List Nat) : List UInt8 := (xs.map (leb 8)).flatten
theorem u64s_length (xs : List Nat) : (u64s xs).length = 8 * xs.length := by
  induction xs with
  | nil => rfl
  | cons x r ih => rw [u64s, List.map_cons, List.flatten_cons, List.length_append, leb_length, ← u64s, ih, List.length_cons]; omega
theorem u64s_snoc (xs : List Nat) (x : Nat) : u64s (xs ++ [x]) = u64s xs ++ leb 8 x := by simp [u64s]
/-- Zeros in which the next number is laid. -/
theorem zer_step (l : List UInt8) (x m : Nat) (hm : 8 ≤ m) : ((Lib.byteCells l ++ zer m).take l.length ++ Lib.byteCells (leb 8 x) ++ (Lib.byteCells l ++ zer m).drop (l.length + 8)) = Lib.byteCells (l ++ leb 8 x) ++ zer (m - 8) := by
  have hl : (Lib.byteCells l).length = l.length := Lib.byteCells_length l
  rw [← hl, List.take_left, List.drop_append, List.drop_of_length_le (by omega), List.nil_append, Nat.add_sub_cancel_left, Lib.byteCells_append, zer, List.drop_replicate, ← zer]

/-- Within the loop: k numbers are laid, the others are zeros yet. -/
structure U64At (w wr : World) (base bb g1 N k1 n k : Nat) (A : Option Addr) (l : List UInt8) (xs : List Nat) : Prop where
  blk : Whole wr bb 47 #[.slice (some ⟨g1, 0, none⟩) N k1]
  own : wr.ownsRow base 5 1 (.slice (some ⟨g1, 0, none⟩) N k1) N (Lib.byteCells (l ++ u64s (xs.take k)) ++ zer (8 * (n - k)))
  keeps : Keeps (fun i => i = bb ∨ ob A = some i) w wr

def U64Res (w : World) (base bb : Nat) (A : Option Addr) (l : List UInt8) (xs : List Nat) (e : Ending) (w' : World) : Prop := ∃ A' c', e = .returned (.tuple #[]) ∧ Put w w' base bb A A' c' (l ++ u64s xs)

end Go.Proofs.YtmdmccjmmljbkaaGreat
