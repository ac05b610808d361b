/- The specification's bytes of a column of maps: offsets, keys, values. Conditions: sizes far below the machine's. -/
import Derived.Test.YtkgjchfbbpabpaaGreatArP
import Derived.Deep.RegionHeld3
namespace Go.Proofs.YtkgjchfbbpabpaaGreat
open Go.RowKit Go.Lib
set_option linter.unusedVariables false


def FlatRes (w : World) (vs : List Value) (n : Nat) (en : Ending) (w' : World) : Prop := ∃ A c, en = .returned (.slice A n c) ∧ w'.ownsRow w.heap.size 40 2 (.slice A n c) n vs ∧ Keeps (fun _ => False) w w'

set_option maxHeartbeats 400000 in
theorem stJoinThree (w : World) (g : Nat) (t : TypeId) (A B C : Option Addr) (n c m c2 p c3 : Nat) (l d k : List UInt8) (hW : Whole w g t #[.slice A n c, .slice B m c2, .slice C p c3]) (h1 : Rd w 1 A n (Lib.byteCells l)) (h2 : Rd w 1 B m (Lib.byteCells d)) (h3 : Rd w 1 C p (Lib.byteCells k)) (hn : n + m + p ≤ 70368744177664) :
    Calls Tryz.prog 9 #[.slice (some ⟨g, 0, none⟩) 3 3] w fun e w' => OwnRes w 5 (Lib.byteCells (l ++ d ++ k)) (n + m + p) e w' := by
  obtain ⟨i0, hi0, hz0, hz1, hz2⟩ := info_parts infoU8
  have hlt := hW.lt
  have c0 : w.cell? ⟨g, 0, none⟩ = some (.slice A n c) := hW.cell 0
  go_enter Tryz.func9, Tryz.ntmps9
  go_wp2_with fail
  refine wp_loop_rounds 4 ?_
  rw [rounds_succ]
  go_wp2_with (first
    | (at_builtin
       refine wpList_append_rd _ rfl (.tmp 11) (.tmp 15) _ rfl w.heap.size 5 i0 _ 1 1 Tryz.underlying26 hi0 hz0 hz1 hz2 rfl Nat.one_pos none 0 0 (Lib.byteCells []) rfl (World.ownsRow_nil _ _ _ _) A n c (Lib.byteCells l) rfl h1 (byteCells_one _) (by simp only [maxLen]; omega) (by omega) (Nat.le_refl _) ?_
       intro A1 c1 w1 o1 hg1 hat1
       have K1 := (Keeps.refl (fun _ => False) w).grown hg1 (fun k hk => by cases hk)
       have e1 : w1.cell? ⟨g, 1, none⟩ = some (.slice B m c2) := (hW.keeps K1 (fun h => h)).cell 1
       rw [← Lib.byteCells_append, Nat.zero_add, List.nil_append] at o1
       rw [Nat.zero_add]
       clear c0))
  rw [rounds_succ]
  go_wp2_with (first
    | (at_builtin
       refine wpList_append_rd _ rfl (.tmp 11) (.tmp 15) _ rfl w.heap.size 5 i0 _ 1 1 Tryz.underlying26 hi0 hz0 hz1 hz2 rfl Nat.one_pos A1 c1 n (Lib.byteCells l) rfl o1 B m c2 (Lib.byteCells d) rfl (h2.keeps K1 (fun _ _ h => h)) (byteCells_one _) (by simp only [maxLen]; omega) (by omega) K1.size ?_
       intro A2 c2' w2 o2 hg2 hat2
       have K2 := K1.grown hg2 (fun k hk => .inr (o1.lt k (by rw [ownBlock_slice]; exact hk)).1)
       have e2 : w2.cell? ⟨g, 2, none⟩ = some (.slice C p c3) := (hW.keeps K2 (fun h => h)).cell 2
       rw [← Lib.byteCells_append] at o2
       clear e1))
  rw [rounds_succ]
  go_wp2_with (first
    | (at_builtin
       refine wpList_append_rd _ rfl (.tmp 11) (.tmp 15) _ rfl w.heap.size 5 i0 _ 1 1 Tryz.underlying26 hi0 hz0 hz1 hz2 rfl Nat.one_pos A2 c2' (n + m) (Lib.byteCells (l ++ d)) rfl o2 C p c3 (Lib.byteCells k) rfl (h3.keeps K2 (fun _ _ h => h)) (byteCells_one _) (by simp only [maxLen]; omega) (by omega) K2.size ?_
       intro A3 c3' w3 o3 hg3 hat3
       have K3 := K2.grown hg3 (fun k hk => .inr (o2.lt k (by rw [ownBlock_slice]; exact hk)).1)
       rw [← Lib.byteCells_append] at o3))
  rw [rounds_succ]
  go_wp2_with fail
  go_ret
  exact OwnRes.mk o3 K3
end Go.Proofs.YtkgjchfbbpabpaaGreat
