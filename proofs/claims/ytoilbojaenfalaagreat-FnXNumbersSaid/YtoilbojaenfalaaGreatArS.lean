/- The specification's bytes of columns of strings and of their arrays. Conditions: sizes far below the machine's. -/
import Derived.Test.YtoilbojaenfalaaGreatOpen
import Derived.Test.YtoilbojaenfalaaGreatStr
import Derived.LoopTactic
namespace Go.Proofs.YtoilbojaenfalaaGreat
open Go.RowKit Go.Lib
set_option linter.unusedVariables false
theorem infoStrE : (Tryz.prog.info? 9).map (fun i => (i.zero, i.size, i.bytes)) = some (some (.string ⟨#[]⟩), 1, 16) := by kernel_rfl
theorem infoIntE : (Tryz.prog.info? 3).map (fun i => (i.zero, i.size, i.bytes)) = some (some (.int .i64 0), 1, 8) := by kernel_rfl
theorem infoBsE : (Tryz.prog.info? 30).map (fun i => (i.zero, i.size, i.bytes)) = some (some (.slice none 0 0), 1, 24) := by kernel_rfl
theorem one_val (v : Value) (h : v.oneCell' = true) : ∀ u ∈ [v], u.oneCell' = true := fun u hu => by rw [List.mem_singleton.1 hu]; exact h
theorem strs_one (xs : List ByteArray) : ∀ u ∈ xs.map Value.string, u.oneCell' = true := by
  intro u hu
  obtain ⟨s, _, rfl⟩ := List.mem_map.1 hu
  rfl
theorem rd_one (w : World) (t : TypeId) (v : Value) : Rd (w.alloc (.cells #[v] t)) 1 (some ⟨w.heap.size, 0, none⟩) 1 [v] := Rd.whole (Whole.new w t #[v]) rfl rfl
/-- What a function that makes a row of its own returns. -/
def OwnRes (w : World) (e : TypeId) (vs : List Value) (n : Nat) (en : Ending) (w' : World) : Prop := ∃ A c, en = .returned (.slice A n c) ∧ w'.ownsRow w.heap.size e 1 (.slice A n c) n vs ∧ Keeps (fun _ => False) w w' ∧ ∀ k, ob A = some k → w.heap.size ≤ k
theorem OwnRes.mk {w w' : World} {e : TypeId} {vs : List Value} {n c : Nat} {A : Option Addr} (h : w'.ownsRow w.heap.size e 1 (.slice A n c) n vs) (hk : Keeps (fun _ => False) w w') : OwnRes w e vs n (.returned (.slice A n c)) w' :=
  ⟨A, c, rfl, h, hk, fun k hk => (h.lt k (by rw [ownBlock_slice]; exact hk)).1⟩
theorem OwnRes.of {w w' : World} {e : TypeId} {vs : List Value} {n c : Nat} {A : Option Addr} {en : Ending} (he : en = .returned (.slice A n c)) (h : w'.ownsRow w.heap.size e 1 (.slice A n c) n vs) (hk : Keeps (fun _ => False) w w') : OwnRes w e vs n en w' := by
  rw [he]; exact OwnRes.mk h hk
theorem take_map {α : Type} (f : α → Value) {xs : List α} {k : Nat} {x : α} (h : xs[k]? = some x) : (xs.take k).map f ++ [f x] = (xs.take (k + 1)).map f := by
  rw [List.take_add_one, h]; simp
theorem take_flat {α : Type} {LL : List (List α)} {k : Nat} {L : List α} (h : LL[k]? = some L) : (LL.take (k + 1)).flatten = (LL.take k).flatten ++ L := by
  rw [List.take_add_one, h]; simp
theorem flat_le {α : Type} (LL : List (List α)) (k : Nat) : (LL.take k).flatten.length ≤ LL.flatten.length := by
  have h : LL.flatten = (LL.take k).flatten ++ (LL.drop k).flatten := by rw [← List.flatten_append, List.take_append_drop]
  rw [h, List.length_append]; omega



theorem leb_step (j y : Nat) : leb (j + 1) y = UInt8.ofNat y :: leb j (y / 256) := rfl
theorem byte_of (y : Nat) : [Value.int .u8 ((y : Int) % 256)] = Lib.byteCells [UInt8.ofNat y] := by
  rw [← cell_ofNat]; rfl


/-- The offsets of rows with these lengths, from s on. -/
def offB : List Nat → Nat → List UInt8
  | [], _ => []
  | k :: r, s => leb 8 (s + k) ++ offB r (s + k)
theorem offB_length : ∀ (l : List Nat) (s : Nat), (offB l s).length = 8 * l.length
  | [], _ => rfl
  | k :: r, s => by rw [offB, List.length_append, leb_length, offB_length, List.length_cons]; omega
theorem offB_snoc : ∀ (l : List Nat) (x s : Nat), offB (l ++ [x]) s = offB l s ++ leb 8 (s + l.sum + x)
  | [], x, s => by simp [offB]
  | k :: r, x, s => by rw [List.cons_append, offB, offB_snoc, offB, List.sum_cons, List.append_assoc, Nat.add_assoc s k]
theorem sum_le (l : List Nat) (k : Nat) : (l.take k).sum ≤ l.sum := by
  have h : l.sum = (l.take k).sum + (l.drop k).sum := by rw [← List.sum_append, List.take_append_drop]
  omega


theorem byte_one2 (n : Nat) (z : Int) (h : n < 256) (hz : (n : Int) = z) : [Value.int .u8 z] = Lib.byteCells [n.toUInt8] := by
  subst hz
  have e : n.toUInt8.toNat = n := by rw [Nat.toUInt8_eq, UInt8.toNat_ofNat']; omega
  simp [Lib.byteCells, e]


/-- Texts, each behind its length. -/
def encB (LB : List (List UInt8)) : List UInt8 := (LB.map fun l => Lib.uvarint l.length ++ l).flatten
theorem encB_step {LB : List (List UInt8)} {k : Nat} {l : List UInt8} (h : LB[k]? = some l) : encB (LB.take (k + 1)) = encB (LB.take k) ++ Lib.uvarint l.length ++ l := by
  rw [encB, List.take_add_one, h]
  simp [encB, List.append_assoc]
theorem encB_le (LB : List (List UInt8)) (k : Nat) : (encB (LB.take k)).length ≤ (encB LB).length := by
  have := flat_le (LB.map fun l => Lib.uvarint l.length ++ l) k
  rw [← List.map_take] at this
  exact this

theorem own_base_le {w : World} {b b' : Nat} {e : TypeId} {size n : Nat} {v : Value} {xs : List Value} (h : w.ownsRow b e size v n xs) (hb : b' ≤ b) : w.ownsRow b' e size v n xs := by
  refine ⟨h.1, ?_⟩
  rcases h.2 with hn | ⟨g', cap, cur, rfl, hlo, rest⟩
  · exact .inl hn
  · exact .inr ⟨g', cap, cur, rfl, Nat.le_trans hb hlo, rest⟩


theorem enc_str (xs : List ByteArray) : encB (xs.map sl) = (xs.map strB).flatten := by
  rw [encB, List.map_map]
  congr 1


end Go.Proofs.YtoilbojaenfalaaGreat
