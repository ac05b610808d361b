/- The specification's bytes of columns of strings and of their arrays. Conditions: sizes far below the machine's. -/
import Derived.Test.YtfkokngjclaikaaOpen
import Derived.Test.YtfkokngjclaikaaStr
import Derived.LoopTactic
namespace Go.Proofs.Ytfkokngjclaikaa
open Go.RowKit Go.Lib
set_option linter.unusedVariables false
theorem infoStrE : (Try.prog.info? 9).map (fun i => (i.zero, i.size, i.bytes)) = some (some (.string ⟨#[]⟩), 1, 16) := by kernel_rfl
theorem infoIntE : (Try.prog.info? 3).map (fun i => (i.zero, i.size, i.bytes)) = some (some (.int .i64 0), 1, 8) := by kernel_rfl
theorem infoBsE : (Try.prog.info? 23).map (fun i => (i.zero, i.size, i.bytes)) = some (some (.slice none 0 0), 1, 24) := by kernel_rfl
theorem infoSsE : (Try.prog.info? 39).map (fun i => (i.zero, i.size, i.bytes)) = some (some (.slice none 0 0), 1, 24) := by kernel_rfl
theorem one_val (v : Value) (h : v.oneCell' = true) : ∀ u ∈ [v], u.oneCell' = true := fun u hu => by rw [List.mem_singleton.1 hu]; exact h
theorem strs_one (xs : List ByteArray) : ∀ u ∈ xs.map Value.string, u.oneCell' = true := by
  intro u hu
  obtain ⟨s, _, rfl⟩ := List.mem_map.1 hu
  rfl
theorem rd_one (w : World) (t : TypeId) (v : Value) : Rd (w.alloc (.cells #[v] t)) 1 (some ⟨w.heap.size, 0, none⟩) 1 [v] := Rd.whole (Whole.new w t #[v]) rfl rfl
/-- What a function that makes a row of its own returns. -/
def OwnRes (w : World) (e : TypeId) (vs : List Value) (n : Nat) (en : Ending) (w' : World) : Prop := ∃ A c, en = .returned (.slice A n c) ∧ w'.ownsRow w.heap.size e 1 (.slice A n c) n vs ∧ Keeps (fun _ => False) w w' ∧ ∀ k, ob A = some k → w.heap.size ≤ k
theorem OwnRes.mk {w w' : World} {e : TypeId} {vs : List Value} {n c : Nat} {A : Option Addr} (h : w'.ownsRow w.heap.size e 1 (.slice A n c) n vs) (hk : Keeps (fun _ => False) w w') : OwnRes w e vs n (.returned (.slice A n c)) w' :=
  ⟨A, c, rfl, h, hk, fun k hk => (h.lt k (by rw [ownBlock_slice]; exact hk)).1⟩
theorem OwnRes.of {w w' : World} {e : TypeId} {vs : List Value} {n c : Nat} {A : Option Addr} {en : Ending} (he : en = .returned (.slice A n c)) (h : w'.ownsRow w.heap.size e 1 (.slice A n c) n vs) (hk : Keeps (fun _ => False) w w') : OwnRes w e vs n en w' := by
  rw [he]; exact OwnRes.mk h hk
theorem take_map {α : Type} (f : α → Value) {xs : List α} {k : Nat} {x : α} (h : xs[k]? = some x) : (xs.take k).map f ++ [f x] = (xs.take (k + 1)).map f := by
  rw [List.take_add_one, h]; simp
theorem take_flat {α : Type} {LL : List (List α)} {k : Nat} {L : List α} (h : LL[k]? = some L) : (LL.take (k + 1)).flatten = (LL.take k).flatten ++ L := by
  rw [List.take_add_one, h]; simp
theorem flat_le {α : Type} (LL : List (List α)) (k : Nat) : (LL.take k).flatten.length ≤ LL.flatten.length := by
  have h : LL.flatten = (LL.take k).flatten ++ (LL.drop k).flatten := by rw [← List.flatten_append, List.take_append_drop]
  rw [h, List.length_append]; omega



theorem leb_step (j y : Nat) : leb (j + 1) y = UInt8.ofNat y :: leb j (y / 256) := rfl
theorem byte_of (y : Nat) : [Value.int .u8 ((y : Int) % 256)] = Lib.byteCells [UInt8.ofNat y] := by
  rw [← cell_ofNat]; rfl


/-- The offsets of rows with these lengths, from s on. -/
def offB : List Nat → Nat → List UInt8
  | [], _ => []
  | k :: r, s => leb 8 (s + k) ++ offB r (s + k)
theorem offB_length : ∀ (l : List Nat) (s : Nat), (offB l s).length = 8 * l.length
  | [], _ => rfl
  | k :: r, s => by rw [offB, List.length_append, leb_length, offB_length, List.length_cons]; omega
theorem offB_snoc : ∀ (l : List Nat) (x s : Nat), offB (l ++ [x]) s = offB l s ++ leb 8 (s + l.sum + x)
  | [], x, s => by simp [offB]
  | k :: r, x, s => by rw [List.cons_append, offB, offB_snoc, offB, List.sum_cons, List.append_assoc, Nat.add_assoc s k]
theorem sum_le (l : List Nat) (k : Nat) : (l.take k).sum ≤ l.sum := by
  have h : l.sum = (l.take k).sum + (l.drop k).sum := by rw [← List.sum_append, List.take_append_drop]
  omega


theorem byte_one2 (n : Nat) (z : Int) (h : n < 256) (hz : (n : Int) = z) : [Value.int .u8 z] = Lib.byteCells [n.toUInt8] := by
  subst hz
  have e : n.toUInt8.toNat = n := by rw [Nat.toUInt8_eq, UInt8.toNat_ofNat']; omega
  simp [Lib.byteCells, e]


/-- Texts, each behind its length. -/
def encB (LB : List (List UInt8)) : List UInt8 := (LB.map fun l => Lib.uvarint l.length ++ l).flatten
theorem encB_step {LB : List (List UInt8)} {k : Nat} {l : List UInt8} (h : LB[k]? = some l) : encB (LB.take (k + 1)) = encB (LB.take k) ++ Lib.uvarint l.length ++ l := by
  rw [encB, List.take_add_one, h]
  simp [encB, List.append_assoc]
theorem encB_le (LB : List (List UInt8)) (k : Nat) : (encB (LB.take k)).length ≤ (encB LB).length := by
  have := flat_le (LB.map fun l => Lib.uvarint l.length ++ l) k
  rw [← List.map_take] at this
  exact this

theorem own_base_le {w : World} {b b' : Nat} {e : TypeId} {size n : Nat} {v : Value} {xs : List Value} (h : w.ownsRow b e size v n xs) (hb : b' ≤ b) : w.ownsRow b' e size v n xs := by
  refine ⟨h.1, ?_⟩
  rcases h.2 with hn | ⟨g', cap, cur, rfl, hlo, rest⟩
  · exact .inl hn
  · exact .inr ⟨g', cap, cur, rfl, Nat.le_trans hb hlo, rest⟩


theorem enc_str (xs : List ByteArray) : encB (xs.map sl) = (xs.map strB).flatten := by
  rw [encB, List.map_map]
  congr 1


set_option maxHeartbeats 400000 in
theorem stJoinTwo (w : World) (g : Nat) (t : TypeId) (A B : Option Addr) (n c m c2 : Nat) (l d : List UInt8) (hW : Whole w g t #[.slice A n c, .slice B m c2]) (h1 : Rd w 1 A n (Lib.byteCells l)) (h2 : Rd w 1 B m (Lib.byteCells d)) (hn : n + m ≤ 70368744177664) :
    Calls Try.prog 8 #[.slice (some ⟨g, 0, none⟩) 2 2] w fun e w' => ∃ A' c', e = .returned (.slice A' (n + m) c') ∧ w'.ownsRow w.heap.size 5 1 (.slice A' (n + m) c') (n + m) (Lib.byteCells (l ++ d)) ∧ Keeps (fun _ => False) w w' ∧ ∀ k, ob A' = some k → w.heap.size ≤ k := by
  obtain ⟨i0, hi0, hz0, hz1, hz2⟩ := info_parts infoU8
  have hlt := hW.lt
  have c0 : w.cell? ⟨g, 0, none⟩ = some (.slice A n c) := hW.cell 0
  go_enter Try.func8, Try.ntmps8
  go_wp2_with fail
  refine wp_loop_rounds 3 ?_
  rw [rounds_succ]
  go_wp2_with (first
    | (at_builtin
       refine wpList_append_rd _ rfl (.tmp 11) (.tmp 15) _ rfl w.heap.size 5 i0 _ 1 1 Try.underlying23 hi0 hz0 hz1 hz2 rfl Nat.one_pos none 0 0 (Lib.byteCells []) rfl (World.ownsRow_nil _ _ _ _) A n c (Lib.byteCells l) rfl h1 (byteCells_one _) (by simp only [maxLen]; omega) (by omega) (Nat.le_refl _) ?_
       intro A1 c1 w1 o1 hg1 hat1
       have K1 := (Keeps.refl (fun _ => False) w).grown hg1 (fun k hk => by cases hk)
       have e1 : w1.cell? ⟨g, 1, none⟩ = some (.slice B m c2) := (hW.keeps K1 (fun h => h)).cell 1
       rw [← Lib.byteCells_append, Nat.zero_add, List.nil_append] at o1
       rw [Nat.zero_add]
       clear c0))
  rw [rounds_succ]
  go_wp2_with (first
    | (at_builtin
       refine wpList_append_rd _ rfl (.tmp 11) (.tmp 15) _ rfl w.heap.size 5 i0 _ 1 1 Try.underlying23 hi0 hz0 hz1 hz2 rfl Nat.one_pos A1 c1 n (Lib.byteCells l) rfl o1 B m c2 (Lib.byteCells d) rfl (h2.keeps K1 (fun _ _ h => h)) (byteCells_one _) (by simp only [maxLen]; omega) (by omega) K1.size ?_
       intro A2 c2' w2 o2 hg2 hat2
       have K2 := K1.grown hg2 (fun k hk => .inr (o1.lt k (by rw [ownBlock_slice]; exact hk)).1)
       rw [← Lib.byteCells_append] at o2))
  rw [rounds_succ]
  go_wp2_with fail
  go_ret
  exact ⟨A2, c2', rfl, o2, K2, fun k hk => (o2.lt k (by rw [ownBlock_slice]; exact hk)).1⟩
end Go.Proofs.Ytfkokngjclaikaa
