/- ReadRaw: the next bytes, as a row of the reader's own; a slice of zeros; two slices joined. Conditions as in the texts of the reader. -/
import Derived.Test.YtfkokngjclaikaaRd2
import Derived.Test.YtfkokngjclaikaaPut
namespace Go.Proofs.Ytfkokngjclaikaa
open Go.RowKit

theorem made_bytes (n : Nat) : (madeCells (Value.int .u8 0).cells (n * 1)).toList = Lib.byteCells (List.replicate n 0) := by
  apply List.ext_getElem?
  intro i
  simp only [Array.getElem?_toList, madeCells, Value.cells, Nat.mul_one, Lib.byteCells, List.getElem?_map, Array.getElem?_map]
  by_cases h : i < n
  · simp [h, Nat.mod_one]
  · simp [h]

set_option maxHeartbeats 400000 in
theorem readRaw_ok (w : World) (base rb bb : Nat) (D R : Option Nat) (l d : List UInt8) (m : Nat) (hl : l.length = m) (hR : RdrOn w base rb bb D R (l ++ d)) (hM : m ≤ 140737488355328) :
    Calls Try.prog 24 #[.pointer (some ⟨rb, 0, none⟩), .int .i64 m] w fun e w' => ∃ A c, e = .returned (.tuple #[.slice A m c, .nilIface]) ∧ w'.ownsRow base 5 1 (.slice A m c) m (Lib.byteCells l) ∧ RdrGo w w' base rb bb D R d := by
  obtain ⟨A, c, C, n, k, q, hA, hD, rfl⟩ := hR
  subst hl
  go_enter Try.func24, Try.ntmps24
  go_wp2_with fail
  refine (readFull_ok w base rb bb A c (l ++ d) C n k l.length q hA (by simp) hM).mono ?_
  rw [List.drop_left, List.take_left]
  rintro e w1 ⟨A1, c1, C1, k1, rfl, hR1, hK1, hA1, hC1⟩
  have hc1 : w1.cell? ⟨rb, 1, none⟩ = some (.pointer (some ⟨bb, 0, none⟩)) := hR1.rdr.cell 1
  have hc3 : w1.cell? ⟨bb, 0, none⟩ = some (.slice C1 l.length k1) := hR1.blk.cell 0
  go_wp2_with fail
  refine bodyPost_ret (results_tmp2 rfl _ _ _) rfl ⟨C1, k1, rfl, hR1.own, ⟨⟨ob C1, ⟨A1, c1, C1, _, k1, _, hR1, by rw [hA1]; exact hD, rfl⟩, hC1⟩, hK1⟩⟩

set_option maxHeartbeats 400000 in
theorem readRaw_err (w : World) (base rb bb : Nat) (D R : Option Nat) (d : List UInt8) (m : Nat) (hR : RdrOn w base rb bb D R d) (hm : d.length < m) :
    Calls Try.prog 24 #[.pointer (some ⟨rb, 0, none⟩), .int .i64 m] w fun e w' => ∃ v, e = .returned (.tuple #[.slice none 0 0, v]) ∧ IsErr v ∧ RdrGo w w' base rb bb D R [] := by
  go_enter Try.func24, Try.ntmps24
  go_wp2_with fail
  refine (readFull_err w base rb bb D R d m hR hm).mono ?_
  rintro e w1 ⟨v, rfl, ⟨a, rfl⟩, hG⟩
  go_wp2_with (go_at_call 32; go_in)
  refine bodyPost_ret (results_tmp2 rfl _ _ _) rfl ⟨_, rfl, ⟨_, rfl⟩, hG.after ((Keeps.refl _ _).alloc _)⟩

set_option maxHeartbeats 400000 in
theorem stJoin2 (w : World) (g : Nat) (t : TypeId) (A B : Option Addr) (n c m c2 : Nat) (l d : List UInt8) (hW : Whole w g t #[.slice A n c, .slice B m c2]) (h1 : Rd w 1 A n (Lib.byteCells l)) (h2 : Rd w 1 B m (Lib.byteCells d)) (hn : n + m ≤ 70368744177664) :
    Calls Try.prog 8 #[.slice (some ⟨g, 0, none⟩) 2 2] w fun e w' => ∃ A' c', e = .returned (.slice A' (n + m) c') ∧ w'.ownsRow w.heap.size 5 1 (.slice A' (n + m) c') (n + m) (Lib.byteCells (l ++ d)) ∧ Keeps (fun _ => False) w w' ∧ ∀ k, ob A' = some k → w.heap.size ≤ k := by
  obtain ⟨i0, hi0, hz0, hz1, hz2⟩ := info_parts infoU8
  have hlt := hW.lt
  have c0 : w.cell? ⟨g, 0, none⟩ = some (.slice A n c) := hW.cell 0
  go_enter Try.func8, Try.ntmps8
  go_wp2_with fail
  refine wp_loop_rounds 3 ?_
  rw [rounds_succ]
  go_wp2_with (first
    | (at_builtin
       refine wpList_append_rd _ rfl (.tmp 11) (.tmp 15) _ rfl w.heap.size 5 i0 _ 1 1 Try.underlying23 hi0 hz0 hz1 hz2 rfl Nat.one_pos none 0 0 (Lib.byteCells []) rfl (World.ownsRow_nil _ _ _ _) A n c (Lib.byteCells l) rfl h1 (byteCells_one _) (by simp only [maxLen]; omega) (by omega) (Nat.le_refl _) ?_
       intro A1 c1 w1 o1 hg1 hat1
       have K1 := (Keeps.refl (fun _ => False) w).grown hg1 (fun k hk => by cases hk)
       have e1 : w1.cell? ⟨g, 1, none⟩ = some (.slice B m c2) := (hW.keeps K1 (fun h => h)).cell 1
       rw [← Lib.byteCells_append, Nat.zero_add, List.nil_append] at o1
       rw [Nat.zero_add]
       clear c0))
  rw [rounds_succ]
  go_wp2_with (first
    | (at_builtin
       refine wpList_append_rd _ rfl (.tmp 11) (.tmp 15) _ rfl w.heap.size 5 i0 _ 1 1 Try.underlying23 hi0 hz0 hz1 hz2 rfl Nat.one_pos A1 c1 n (Lib.byteCells l) rfl o1 B m c2 (Lib.byteCells d) rfl (h2.keeps K1 (fun _ _ h => h)) (byteCells_one _) (by simp only [maxLen]; omega) (by omega) K1.size ?_
       intro A2 c2' w2 o2 hg2 hat2
       have K2 := K1.grown hg2 (fun k hk => .inr (o1.lt k (by rw [ownBlock_slice]; exact hk)).1)
       rw [← Lib.byteCells_append] at o2))
  rw [rounds_succ]
  go_wp2_with fail
  go_ret
  exact ⟨A2, c2', rfl, o2, K2, fun k hk => (o2.lt k (by rw [ownBlock_slice]; exact hk)).1⟩
end Go.Proofs.Ytfkokngjclaikaa
