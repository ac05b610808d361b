/- The specification's bytes of a column of maps: offsets, keys, values. Conditions: sizes far below the machine's. -/
import Derived.Test.YtkgjchfbbpabpaaArP
import Derived.Deep.RegionHeld3
namespace Go.Proofs.Ytkgjchfbbpabpaa
open Go.RowKit Go.Lib
set_option linter.unusedVariables false

set_option maxRecDepth 100000 in
set_option maxHeartbeats 2000000 in
theorem arLensP (w : World) (A : Option Addr) (n c : Nat) (LL : List (List Pr)) (hl : LL.length = n) (hR : RowsP w A LL) (hn : n ≤ 100000) (hf : LL.flatten.length ≤ 100000) :
    Calls Try.prog 37 #[.slice A n c] w fun e w' => OwnRes w 3 (LL.map fun L => .int .i64 (L.length : Int)) n e w' := by
  obtain ⟨i0, hi0, hz0, hz1, hz2⟩ := info_parts infoIntE
  have HR := Lib.hid hR
  have HL := Lib.hid hl
  clear hR hl
  go_enter Try.func37, Try.ntmps37
  go_wp2_with fail
  go_loopw [3, 4] (fun v i wr => ∃ (k : Nat) (A1 : Option Addr) (c1 : Nat), k ≤ n ∧ i = .int .i64 k ∧ v = .slice A1 k c1 ∧ wr.ownsRow w.heap.size 3 1 (.slice A1 k c1) k ((LL.take k).map fun L => .int .i64 (L.length : Int)) ∧ Keeps (fun _ => False) w wr) (fun _ i _ => n - (RowKit.intOf i).toNat)
  case atStart => exact ⟨0, none, 0, Nat.zero_le _, rfl, rfl, World.ownsRow_nil w w.heap.size 3 1, Keeps.refl _ _⟩
  case round =>
    obtain ⟨k, A1, c1, hk, rfl, rfl, hown, hK⟩ := hrel
    by_cases hlt : k < n
    · obtain ⟨L, hL⟩ : ∃ L, LL[k]? = some L := ⟨_, List.getElem?_eq_getElem (by rw [HL.out]; exact hlt)⟩
      have HT := Lib.hid (take_map (fun L : List Pr => .int .i64 (L.length : Int)) hL)
      obtain ⟨ad, B, d, rfl, hl, hcell, hRd⟩ := (HR.out.keeps hK) k L hL
      clear hL
      have hKa := hK.alloc (.cells #[.int .i64 (L.length : Int)] 3)
      have howna := own_keeps hown ((Keeps.refl (fun _ => False) wr).alloc (.cells #[.int .i64 (L.length : Int)] 3)) (fun _ _ h => h)
      go_wp2_with (at_builtin
                   refine wpList_append_rd _ rfl (.tmp 11) (.tmp 17) _ rfl w.heap.size 3 i0 _ 1 8 Try.underlying30 hi0 hz0 hz1 hz2 rfl Nat.one_pos A1 c1 k _ rfl howna (some ⟨wr.heap.size, 0, none⟩) 1 1 [.int .i64 (L.length : Int)] rfl (rd_one wr 3 _) (one_val _ rfl) (by simp only [maxLen]; omega) (by omega) hKa.size ?_
                   intro A2 c2 w2 hown2 hg2 hat2)
      have hK2 := hKa.grown hg2 (fun i hi => .inr (howna.lt i (by rw [ownBlock_slice]; exact hi)).1)
      rw [HT.out] at hown2
      go_roundw
      case rel => exact ⟨k + 1, A2, c2, by omega, by go_num, rfl, hown2, hK2⟩
      case measure => (first | (simp [RowKit.intOf]; done) | (simp [RowKit.intOf]; omega))
    · have hkn : k = n := by omega
      subst hkn
      rw [List.take_of_length_le (by rw [HL.out]; exact Nat.le_refl _)] at hown
      go_wp2_with fail
      go_ret
      exact OwnRes.mk hown hK

def FlatRes (w : World) (vs : List Value) (n : Nat) (en : Ending) (w' : World) : Prop := ∃ A c, en = .returned (.slice A n c) ∧ w'.ownsRow w.heap.size 64 2 (.slice A n c) n vs ∧ Keeps (fun _ => False) w w'
set_option maxRecDepth 100000 in
set_option maxHeartbeats 2000000 in
theorem arFlatP (w : World) (A : Option Addr) (n c : Nat) (LL : List (List Pr)) (hl : LL.length = n) (hR : RowsP w A LL) (hn : n ≤ 100000) (hf : LL.flatten.length ≤ 100000) :
    Calls Try.prog 36 #[.slice A n c] w fun e w' => FlatRes w (prC LL.flatten) LL.flatten.length e w' := by
  obtain ⟨i0, hi0, hz0, hz1, hz2⟩ := info_parts infoPrE
  have HR := Lib.hid hR
  have HL := Lib.hid hl
  have HF := Lib.hid (fun k => Nat.le_trans (flat_le LL k) hf)
  clear hR hl hf
  go_enter Try.func36, Try.ntmps36
  go_wp2_with fail
  go_loopw [3, 4] (fun v i wr => ∃ (k m : Nat) (A1 : Option Addr) (c1 : Nat), k ≤ n ∧ m = (LL.take k).flatten.length ∧ i = .int .i64 k ∧ v = .slice A1 m c1 ∧ wr.ownsRow w.heap.size 64 2 (.slice A1 m c1) m (prC (LL.take k).flatten) ∧ Keeps (fun _ => False) w wr) (fun _ i _ => n - (RowKit.intOf i).toNat)
  case atStart => exact ⟨0, 0, none, 0, Nat.zero_le _, by simp, rfl, rfl, World.ownsRow_nil w w.heap.size 64 2, Keeps.refl _ _⟩
  case round =>
    obtain ⟨k, m, A1, c1, hk, hm, rfl, rfl, hown, hK⟩ := hrel
    by_cases hlt : k < n
    · obtain ⟨L, hL⟩ : ∃ L, LL[k]? = some L := ⟨_, List.getElem?_eq_getElem (by rw [HL.out]; exact hlt)⟩
      have HT := Lib.hid (take_flat hL)
      have hm1 : m ≤ 100000 := by rw [hm]; exact HF.out k
      have hm2 : m + L.length ≤ 100000 := by have := HF.out (k + 1); rw [HT.out, List.length_append, ← hm] at this; exact this
      obtain ⟨ad, B, d, rfl, hl, hcell, hRd⟩ := (HR.out.keeps hK) k L hL
      have HM := Lib.hid hm
      clear hL hm
      go_wp2_with (at_builtin
                   refine wpList_append_rd _ rfl (.tmp 11) (.tmp 15) _ rfl w.heap.size 64 i0 _ 2 32 Try.underlying61 hi0 hz0 hz1 hz2 rfl (by omega) A1 c1 m _ rfl hown B L.length d _ rfl hRd (prC_one L) (by simp only [maxLen]; omega) (by omega) hK.size ?_
                   intro A2 c2 w2 hown2 hg2 hat2)
      have hK2 := hK.grown hg2 (fun i hi => .inr (hown.lt i (by rw [ownBlock_slice]; exact hi)).1)
      rw [← prC_append, ← HT.out] at hown2
      go_roundw
      case rel => exact ⟨k + 1, m + L.length, A2, c2, by omega, by rw [HT.out, List.length_append, ← HM.out], by go_num, rfl, hown2, hK2⟩
      case measure => (first | (simp [RowKit.intOf]; done) | (simp [RowKit.intOf]; omega))
    · have hkn : k = n := by omega
      subst hkn
      have e : LL.take k = LL := List.take_of_length_le (by rw [HL.out]; exact Nat.le_refl _)
      rw [e] at hown hm
      subst hm
      go_wp2_with fail
      go_ret
      exact ⟨A1, c1, rfl, hown, hK⟩

set_option maxHeartbeats 400000 in
theorem stJoinThree (w : World) (g : Nat) (t : TypeId) (A B C : Option Addr) (n c m c2 p c3 : Nat) (l d k : List UInt8) (hW : Whole w g t #[.slice A n c, .slice B m c2, .slice C p c3]) (h1 : Rd w 1 A n (Lib.byteCells l)) (h2 : Rd w 1 B m (Lib.byteCells d)) (h3 : Rd w 1 C p (Lib.byteCells k)) (hn : n + m + p ≤ 70368744177664) :
    Calls Try.prog 9 #[.slice (some ⟨g, 0, none⟩) 3 3] w fun e w' => OwnRes w 5 (Lib.byteCells (l ++ d ++ k)) (n + m + p) e w' := by
  obtain ⟨i0, hi0, hz0, hz1, hz2⟩ := info_parts infoU8
  have hlt := hW.lt
  have c0 : w.cell? ⟨g, 0, none⟩ = some (.slice A n c) := hW.cell 0
  go_enter Try.func9, Try.ntmps9
  go_wp2_with fail
  refine wp_loop_rounds 4 ?_
  rw [rounds_succ]
  go_wp2_with (first
    | (at_builtin
       refine wpList_append_rd _ rfl (.tmp 11) (.tmp 15) _ rfl w.heap.size 5 i0 _ 1 1 Try.underlying25 hi0 hz0 hz1 hz2 rfl Nat.one_pos none 0 0 (Lib.byteCells []) rfl (World.ownsRow_nil _ _ _ _) A n c (Lib.byteCells l) rfl h1 (byteCells_one _) (by simp only [maxLen]; omega) (by omega) (Nat.le_refl _) ?_
       intro A1 c1 w1 o1 hg1 hat1
       have K1 := (Keeps.refl (fun _ => False) w).grown hg1 (fun k hk => by cases hk)
       have e1 : w1.cell? ⟨g, 1, none⟩ = some (.slice B m c2) := (hW.keeps K1 (fun h => h)).cell 1
       rw [← Lib.byteCells_append, Nat.zero_add, List.nil_append] at o1
       rw [Nat.zero_add]
       clear c0))
  rw [rounds_succ]
  go_wp2_with (first
    | (at_builtin
       refine wpList_append_rd _ rfl (.tmp 11) (.tmp 15) _ rfl w.heap.size 5 i0 _ 1 1 Try.underlying25 hi0 hz0 hz1 hz2 rfl Nat.one_pos A1 c1 n (Lib.byteCells l) rfl o1 B m c2 (Lib.byteCells d) rfl (h2.keeps K1 (fun _ _ h => h)) (byteCells_one _) (by simp only [maxLen]; omega) (by omega) K1.size ?_
       intro A2 c2' w2 o2 hg2 hat2
       have K2 := K1.grown hg2 (fun k hk => .inr (o1.lt k (by rw [ownBlock_slice]; exact hk)).1)
       have e2 : w2.cell? ⟨g, 2, none⟩ = some (.slice C p c3) := (hW.keeps K2 (fun h => h)).cell 2
       rw [← Lib.byteCells_append] at o2
       clear e1))
  rw [rounds_succ]
  go_wp2_with (first
    | (at_builtin
       refine wpList_append_rd _ rfl (.tmp 11) (.tmp 15) _ rfl w.heap.size 5 i0 _ 1 1 Try.underlying25 hi0 hz0 hz1 hz2 rfl Nat.one_pos A2 c2' (n + m) (Lib.byteCells (l ++ d)) rfl o2 C p c3 (Lib.byteCells k) rfl (h3.keeps K2 (fun _ _ h => h)) (byteCells_one _) (by simp only [maxLen]; omega) (by omega) K2.size ?_
       intro A3 c3' w3 o3 hg3 hat3
       have K3 := K2.grown hg3 (fun k hk => .inr (o2.lt k (by rw [ownBlock_slice]; exact hk)).1)
       rw [← Lib.byteCells_append] at o3))
  rw [rounds_succ]
  go_wp2_with fail
  go_ret
  exact OwnRes.mk o3 K3
end Go.Proofs.Ytkgjchfbbpabpaa
