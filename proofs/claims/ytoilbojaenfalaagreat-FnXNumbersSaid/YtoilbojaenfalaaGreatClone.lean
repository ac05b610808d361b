/- slices.Clone of bytes: a row of the call's own with the same bytes. Conditions: the argument reads as its bytes. -/
import Derived.Test.YtoilbojaenfalaaGreatBuf
import Derived.WalkSpells
namespace Go.Proofs.YtoilbojaenfalaaGreat
open Go.RowKit
set_option maxHeartbeats 400000 in
theorem cloneB (w : World) (A : Option Addr) (c : Nat) (d : List UInt8) (hR : Rd w 1 A d.length (Lib.byteCells d)) (hn : d.length ≤ 70368744177664) :
    Calls Tryz.prog 7 #[.slice A d.length c] w fun e w' => ∃ A' c', e = .returned (.slice A' d.length c') ∧ w'.ownsRow w.heap.size 5 1 (.slice A' d.length c') d.length (Lib.byteCells d) ∧ Keeps (fun _ => False) w w' ∧ ∀ k, ob A' = some k → w.heap.size ≤ k := by
  rcases A with _ | ad
  · have h0 : d.length = 0 := by
      rcases Nat.eq_zero_or_pos d.length with h | h
      · exact h
      · obtain ⟨ad, h1, _⟩ := hR.2 h
        cases h1
    obtain rfl : d = [] := List.eq_nil_of_length_eq_zero h0
    have hq := fun w : World => Lib.run_eql_slice_nil (P := Tryz.prog) w 30 5 none 0 c 0 0 Tryz.underlying30
    go_enter Tryz.func7, Tryz.ntmps7
    go_wp2_with fail
    go_ret
    exact ⟨none, 0, rfl, World.ownsRow_nil _ _ _ _, Keeps.refl _ _, fun k hk => by cases hk⟩
  · obtain ⟨i0, hi0, hz0, hz1, hz2⟩ := info_parts infoU8
    have hq := fun w : World => Lib.run_eql_slice_nil (P := Tryz.prog) w 30 5 (some ad) d.length c 0 0 Tryz.underlying30
    have hown := World.ownsRow_lit (base := w.heap.size) (e := 5) (size := 1) w #[] 0 (Nat.le_refl _) (by decide) rfl
    have o1 := byteCells_one d
    have hR1 := hR.alloc (.cells #[] 5)
    have n1 : 0 + d.length ≤ maxLen := by simp only [maxLen]; omega
    have n2 : (0 + d.length) * 1 ≤ 140737488355328 := by omega
    have n3 : w.heap.size ≤ (w.alloc (.cells #[] 5)).heap.size := by simp
    go_enter Tryz.func7, Tryz.ntmps7
    go_wp2_with (first
      | (at_builtin
         refine wpList_append_rd _ rfl (.tmp 5) (.tmp 6) _ rfl w.heap.size 5 i0 _ 1 1 Tryz.underlying30 hi0 hz0 hz1 hz2 rfl Nat.one_pos (some ⟨w.heap.size, 0, none⟩) 0 0 [] rfl hown (some ad) d.length c (Lib.byteCells d) rfl hR1 o1 n1 n2 n3 ?_
         intro A' c' w1 hown1 hg1 hat1))
    go_ret
    rw [Nat.zero_add, List.nil_append] at hown1
    have hK := ((Keeps.refl (fun _ => False) w).alloc (.cells #[] 5)).grown hg1 (fun k hk => .inr (by simp [ob] at hk; omega))
    refine ⟨A', c', rfl, hown1, hK, fun k hk => ?_⟩
    have := hown1.lt k (by rw [ownBlock_slice]; exact hk)
    omega
end Go.Proofs.YtoilbojaenfalaaGreat
