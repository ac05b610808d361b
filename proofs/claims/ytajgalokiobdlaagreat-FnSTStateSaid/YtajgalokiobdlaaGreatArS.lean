/- The specification's bytes of columns of strings and of their arrays. Conditions: sizes far below the machine's. -/
import Derived.Test.YtajgalokiobdlaaGreatOpen
import Derived.Test.YtajgalokiobdlaaGreatStr
import Derived.LoopTactic
namespace Go.Proofs.YtajgalokiobdlaaGreat
open Go.RowKit Go.Lib
set_option linter.unusedVariables false
theorem infoStrE : (Tryz.prog.info? 9).map (fun i => (i.zero, i.size, i.bytes)) = some (some (.string ⟨#[]⟩), 1, 16) := by kernel_rfl
theorem infoIntE : (Tryz.prog.info? 3).map (fun i => (i.zero, i.size, i.bytes)) = some (some (.int .i64 0), 1, 8) := by kernel_rfl
theorem infoBsE : (Tryz.prog.info? 22).map (fun i => (i.zero, i.size, i.bytes)) = some (some (.slice none 0 0), 1, 24) := by kernel_rfl
theorem infoSsE : (Tryz.prog.info? 226).map (fun i => (i.zero, i.size, i.bytes)) = some (some (.slice none 0 0), 1, 24) := by kernel_rfl
theorem one_val (v : Value) (h : v.oneCell' = true) : ∀ u ∈ [v], u.oneCell' = true := fun u hu => by rw [List.mem_singleton.1 hu]; exact h
theorem strs_one (xs : List ByteArray) : ∀ u ∈ xs.map Value.string, u.oneCell' = true := by
  intro u hu
  obtain ⟨s, _, rfl⟩ := List.mem_map.1 hu
  rfl
theorem rd_one (w : World) (t : TypeId) (v : Value) : Rd (w.alloc (.cells #[v] t)) 1 (some ⟨w.heap.size, 0, none⟩) 1 [v] := Rd.whole (Whole.new w t #[v]) rfl rfl
/-- What a function that makes a row of its own returns. -/
def OwnRes (w : World) (e : TypeId) (vs : List Value) (n : Nat) (en : Ending) (w' : World) : Prop := ∃ A c, en = .returned (.slice A n c) ∧ w'.ownsRow w.heap.size e 1 (.slice A n c) n vs ∧ Keeps (fun _ => False) w w' ∧ ∀ k, ob A = some k → w.heap.size ≤ k
theorem OwnRes.mk {w w' : World} {e : TypeId} {vs : List Value} {n c : Nat} {A : Option Addr} (h : w'.ownsRow w.heap.size e 1 (.slice A n c) n vs) (hk : Keeps (fun _ => False) w w') : OwnRes w e vs n (.returned (.slice A n c)) w' :=
  ⟨A, c, rfl, h, hk, fun k hk => (h.lt k (by rw [ownBlock_slice]; exact hk)).1⟩
theorem OwnRes.of {w w' : World} {e : TypeId} {vs : List Value} {n c : Nat} {A : Option Addr} {en : Ending} (he : en = .returned (.slice A n c)) (h : w'.ownsRow w.heap.size e 1 (.slice A n c) n vs) (hk : Keeps (fun _ => False) w w') : OwnRes w e vs n en w' := by
  rw [he]; exact OwnRes.mk h hk
theorem take_map {α : Type} (f : α → Value) {xs : List α} {k : Nat} {x : α} (h : xs[k]? = some x) : (xs.take k).map f ++ [f x] = (xs.take (k + 1)).map f := by
  rw [List.take_add_one, h]; simp
theorem take_flat {α : Type} {LL : List (List α)} {k : Nat} {L : List α} (h : LL[k]? = some L) : (LL.take (k + 1)).flatten = (LL.take k).flatten ++ L := by
  rw [List.take_add_one, h]; simp
theorem flat_le {α : Type} (LL : List (List α)) (k : Nat) : (LL.take k).flatten.length ≤ LL.flatten.length := by
  have h : LL.flatten = (LL.take k).flatten ++ (LL.drop k).flatten := by rw [← List.flatten_append, List.take_append_drop]
  rw [h, List.length_append]; omega



theorem leb_step (j y : Nat) : leb (j + 1) y = UInt8.ofNat y :: leb j (y / 256) := rfl
theorem byte_of (y : Nat) : [Value.int .u8 ((y : Int) % 256)] = Lib.byteCells [UInt8.ofNat y] := by
  rw [← cell_ofNat]; rfl

set_option maxRecDepth 100000 in
set_option maxHeartbeats 2000000 in
theorem stNumber (w : World) (x k : Nat) (hx : x < 18446744073709551616) (hk : k ≤ 8) :
    Calls Tryz.prog 4 #[.int .u64 x, .int .i64 k] w fun e w' => OwnRes w 5 (Lib.byteCells (leb k x)) k e w' := by
  obtain ⟨i0, hi0, hz0, hz1, hz2⟩ := info_parts infoU8
  have HX := Lib.hid hx
  clear hx
  go_enter Tryz.func4, Tryz.ntmps4
  go_wp2_with fail
  go_loopw [0, 5, 6] (fun X v i wr => ∃ (j y : Nat) (pre : List UInt8) (A1 : Option Addr) (c1 : Nat), j ≤ k ∧ y ≤ x ∧ pre.length = j ∧ leb k x = pre ++ leb (k - j) y ∧ X = .int .u64 y ∧ i = .int .i64 j ∧ v = .slice A1 j c1 ∧ wr.ownsRow w.heap.size 5 1 (.slice A1 j c1) j (Lib.byteCells pre) ∧ Keeps (fun _ => False) w wr) (fun _ _ i _ => k - (RowKit.intOf i).toNat)
  case atStart => exact ⟨0, x, [], none, 0, Nat.zero_le _, Nat.le_refl _, rfl, rfl, rfl, rfl, rfl, World.ownsRow_nil w w.heap.size 5 1, Keeps.refl _ _⟩
  case round =>
    obtain ⟨j, y, pre, A1, c1, hj, hy, hp, he, rfl, rfl, rfl, hown, hK⟩ := hrel
    have HE := Lib.hid he
    have HP := Lib.hid hp
    clear he hp
    by_cases hlt : j < k
    · have hKa := hK.alloc (.cells #[.int .u8 ((y : Int) % 256)] 5)
      have howna := own_keeps hown ((Keeps.refl (fun _ => False) wr).alloc (.cells #[.int .u8 ((y : Int) % 256)] 5)) (fun _ _ h => h)
      go_wp2_with (at_builtin
                   refine wpList_append_rd _ rfl (.tmp 12) (.tmp 15) _ rfl w.heap.size 5 i0 _ 1 1 Tryz.underlying22 hi0 hz0 hz1 hz2 rfl Nat.one_pos A1 c1 j _ rfl howna (some ⟨wr.heap.size, 0, none⟩) 1 1 [.int .u8 ((y : Int) % 256)] rfl (rd_one wr 5 _) (one_val _ rfl) (by simp only [maxLen]; omega) (by omega) hKa.size ?_
                   intro A2 c2 w2 hown2 hg2 hat2)
      have hK2 := hKa.grown hg2 (fun i hi => .inr (howna.lt i (by rw [ownBlock_slice]; exact hi)).1)
      rw [byte_of, ← Lib.byteCells_append] at hown2
      go_roundw
      case rel => exact ⟨j + 1, y / 256, pre ++ [UInt8.ofNat y], A2, c2, by omega, by omega, by rw [List.length_append, HP.out]; rfl, by rw [HE.out, show k - j = (k - (j + 1)) + 1 by omega, leb_step]; simp, by go_num, by go_num, rfl, hown2, hK2⟩
      case measure => (first | (simp [RowKit.intOf]; done) | (simp [RowKit.intOf]; omega))
    · have hkn : j = k := by omega
      subst hkn
      have e : leb j x = pre := by rw [HE.out, Nat.sub_self]; simp [leb]
      go_wp2_with fail
      go_ret
      rw [e]
      exact OwnRes.mk hown hK

/-- The offsets of rows with these lengths, from s on. -/
def offB : List Nat → Nat → List UInt8
  | [], _ => []
  | k :: r, s => leb 8 (s + k) ++ offB r (s + k)
theorem offB_length : ∀ (l : List Nat) (s : Nat), (offB l s).length = 8 * l.length
  | [], _ => rfl
  | k :: r, s => by rw [offB, List.length_append, leb_length, offB_length, List.length_cons]; omega
theorem offB_snoc : ∀ (l : List Nat) (x s : Nat), offB (l ++ [x]) s = offB l s ++ leb 8 (s + l.sum + x)
  | [], x, s => by simp [offB]
  | k :: r, x, s => by rw [List.cons_append, offB, offB_snoc, offB, List.sum_cons, List.append_assoc, Nat.add_assoc s k]
theorem sum_le (l : List Nat) (k : Nat) : (l.take k).sum ≤ l.sum := by
  have h : l.sum = (l.take k).sum + (l.drop k).sum := by rw [← List.sum_append, List.take_append_drop]
  omega


theorem byte_one2 (n : Nat) (z : Int) (h : n < 256) (hz : (n : Int) = z) : [Value.int .u8 z] = Lib.byteCells [n.toUInt8] := by
  subst hz
  have e : n.toUInt8.toNat = n := by rw [Nat.toUInt8_eq, UInt8.toNat_ofNat']; omega
  simp [Lib.byteCells, e]


/-- Texts, each behind its length. -/
def encB (LB : List (List UInt8)) : List UInt8 := (LB.map fun l => Lib.uvarint l.length ++ l).flatten
theorem encB_step {LB : List (List UInt8)} {k : Nat} {l : List UInt8} (h : LB[k]? = some l) : encB (LB.take (k + 1)) = encB (LB.take k) ++ Lib.uvarint l.length ++ l := by
  rw [encB, List.take_add_one, h]
  simp [encB, List.append_assoc]
theorem encB_le (LB : List (List UInt8)) (k : Nat) : (encB (LB.take k)).length ≤ (encB LB).length := by
  have := flat_le (LB.map fun l => Lib.uvarint l.length ++ l) k
  rw [← List.map_take] at this
  exact this

theorem own_base_le {w : World} {b b' : Nat} {e : TypeId} {size n : Nat} {v : Value} {xs : List Value} (h : w.ownsRow b e size v n xs) (hb : b' ≤ b) : w.ownsRow b' e size v n xs := by
  refine ⟨h.1, ?_⟩
  rcases h.2 with hn | ⟨g', cap, cur, rfl, hlo, rest⟩
  · exact .inl hn
  · exact .inr ⟨g', cap, cur, rfl, Nat.le_trans hb hlo, rest⟩


theorem enc_str (xs : List ByteArray) : encB (xs.map sl) = (xs.map strB).flatten := by
  rw [encB, List.map_map]
  congr 1


set_option maxHeartbeats 400000 in
theorem stJoinTwo (w : World) (g : Nat) (t : TypeId) (A B : Option Addr) (n c m c2 : Nat) (l d : List UInt8) (hW : Whole w g t #[.slice A n c, .slice B m c2]) (h1 : Rd w 1 A n (Lib.byteCells l)) (h2 : Rd w 1 B m (Lib.byteCells d)) (hn : n + m ≤ 70368744177664) :
    Calls Tryz.prog 6 #[.slice (some ⟨g, 0, none⟩) 2 2] w fun e w' => ∃ A' c', e = .returned (.slice A' (n + m) c') ∧ w'.ownsRow w.heap.size 5 1 (.slice A' (n + m) c') (n + m) (Lib.byteCells (l ++ d)) ∧ Keeps (fun _ => False) w w' ∧ ∀ k, ob A' = some k → w.heap.size ≤ k := by
  obtain ⟨i0, hi0, hz0, hz1, hz2⟩ := info_parts infoU8
  have hlt := hW.lt
  have c0 : w.cell? ⟨g, 0, none⟩ = some (.slice A n c) := hW.cell 0
  go_enter Tryz.func6, Tryz.ntmps6
  go_wp2_with fail
  refine wp_loop_rounds 3 ?_
  rw [rounds_succ]
  go_wp2_with (first
    | (at_builtin
       refine wpList_append_rd _ rfl (.tmp 11) (.tmp 15) _ rfl w.heap.size 5 i0 _ 1 1 Tryz.underlying22 hi0 hz0 hz1 hz2 rfl Nat.one_pos none 0 0 (Lib.byteCells []) rfl (World.ownsRow_nil _ _ _ _) A n c (Lib.byteCells l) rfl h1 (byteCells_one _) (by simp only [maxLen]; omega) (by omega) (Nat.le_refl _) ?_
       intro A1 c1 w1 o1 hg1 hat1
       have K1 := (Keeps.refl (fun _ => False) w).grown hg1 (fun k hk => by cases hk)
       have e1 : w1.cell? ⟨g, 1, none⟩ = some (.slice B m c2) := (hW.keeps K1 (fun h => h)).cell 1
       rw [← Lib.byteCells_append, Nat.zero_add, List.nil_append] at o1
       rw [Nat.zero_add]
       clear c0))
  rw [rounds_succ]
  go_wp2_with (first
    | (at_builtin
       refine wpList_append_rd _ rfl (.tmp 11) (.tmp 15) _ rfl w.heap.size 5 i0 _ 1 1 Tryz.underlying22 hi0 hz0 hz1 hz2 rfl Nat.one_pos A1 c1 n (Lib.byteCells l) rfl o1 B m c2 (Lib.byteCells d) rfl (h2.keeps K1 (fun _ _ h => h)) (byteCells_one _) (by simp only [maxLen]; omega) (by omega) K1.size ?_
       intro A2 c2' w2 o2 hg2 hat2
       have K2 := K1.grown hg2 (fun k hk => .inr (o1.lt k (by rw [ownBlock_slice]; exact hk)).1)
       rw [← Lib.byteCells_append] at o2))
  rw [rounds_succ]
  go_wp2_with fail
  go_ret
  exact ⟨A2, c2', rfl, o2, K2, fun k hk => (o2.lt k (by rw [ownBlock_slice]; exact hk)).1⟩
end Go.Proofs.YtajgalokiobdlaaGreat
