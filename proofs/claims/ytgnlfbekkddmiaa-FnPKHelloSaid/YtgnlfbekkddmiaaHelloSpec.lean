/- The specification's bytes of the client's hello. Conditions: short strings, numbers of 31 bits. -/
import Derived.Test.YtgnlfbekkddmiaaText
import Derived.Test.YtgnlfbekkddmiaaPrVar
namespace Go.Proofs.Ytgnlfbekkddmiaa
open Go.RowKit Go.Lib
set_option linter.unusedVariables false

set_option maxRecDepth 100000 in
set_option maxHeartbeats 2000000 in
theorem pkInts3 (w : World) (g : Nat) (t : TypeId) (a0 a1 a2 : Nat) (h0 : a0 < 2147483648) (h1 : a1 < 2147483648) (h2 : a2 < 2147483648) (hW : Whole w g t #[.int .i64 a0, .int .i64 a1, .int .i64 a2]) :
    Calls Try.prog 30 #[.slice (some ⟨g, 0, none⟩) 3 3] w fun e w' => ∃ A c, e = .returned (.slice A (Lib.uvarint a0 ++ (Lib.uvarint a1 ++ Lib.uvarint a2)).length c) ∧ w'.ownsRow w.heap.size 5 1 (.slice A (Lib.uvarint a0 ++ (Lib.uvarint a1 ++ Lib.uvarint a2)).length c) (Lib.uvarint a0 ++ (Lib.uvarint a1 ++ Lib.uvarint a2)).length (Lib.byteCells (Lib.uvarint a0 ++ (Lib.uvarint a1 ++ Lib.uvarint a2))) ∧ Keeps (fun _ => False) w w' ∧ ∀ k, ob A = some k → w.heap.size ≤ k := by
  obtain ⟨i0, hi0, hz0, hz1, hz2⟩ := info_parts infoU8
  have l0 : (Lib.uvarint a0).length ≤ 1010 := by have := Lib.uvarint_length64 (x := a0) (by omega); omega
  have C0 := Lib.hid (fun w => prVar w a0 (by omega))
  have x0 : (0 : Int) ≤ (a0 : Int) := by omega
  have y0 : (a0 : Int) ≤ 2147483647 := by omega
  have l1 : (Lib.uvarint a1).length ≤ 1010 := by have := Lib.uvarint_length64 (x := a1) (by omega); omega
  have C1 := Lib.hid (fun w => prVar w a1 (by omega))
  have x1 : (0 : Int) ≤ (a1 : Int) := by omega
  have y1 : (a1 : Int) ≤ 2147483647 := by omega
  have l2 : (Lib.uvarint a2).length ≤ 1010 := by have := Lib.uvarint_length64 (x := a2) (by omega); omega
  have C2 := Lib.hid (fun w => prVar w a2 (by omega))
  have x2 : (0 : Int) ≤ (a2 : Int) := by omega
  have y2 : (a2 : Int) ≤ 2147483647 := by omega
  clear h0 h1 h2
  generalize Lib.uvarint a0 = d0 at *
  generalize Lib.uvarint a1 = d1 at *
  generalize Lib.uvarint a2 = d2 at *
  have hlt := hW.lt
  have K0 := Keeps.refl (fun _ => False) w
  have o0 := World.ownsRow_nil w w.heap.size 5 1
  have hW0 := hW
  have q0 : w.cell? ⟨g, 0, none⟩ = some (.int .i64 a0) := hW.cell 0
  go_enter Try.func30, Try.ntmps30
  go_wp2_with fail
  refine wp_loop_rounds 4 ?_
  rw [rounds_succ]
  go_wp2_with (first
    | (go_at_call 46
       refine (C0.out _).mono ?_
       rintro e v0 ⟨B0, e0, rfl, hv0, hKv0, hBv0⟩
       have hKw0 := K0.trans hKv0 (fun _ _ h => h)
       have how0 := own_keeps o0 hKv0 (fun _ _ h => h)
       have hWv0 := hW0.keeps hKv0 (fun h => h))
    | (at_builtin
       refine wpList_append_rd _ rfl (.tmp 12) (.tmp 15) _ rfl w.heap.size 5 i0 _ 1 1 Try.underlying22 hi0 hz0 hz1 hz2 rfl Nat.one_pos none 0 0 (Lib.byteCells []) rfl how0 B0 d0.length e0 (Lib.byteCells d0) rfl (Rd.own hv0) (byteCells_one _) (by simp only [maxLen]; omega) (by omega) hKw0.size ?_
       intro A1 c1 w1 o1 hg1 hat1
       have K1 := hKw0.grown hg1 (fun k hk => .inr (how0.lt k (by rw [ownBlock_slice]; exact hk)).1)
       have hW1 : Whole w1 g t #[.int .i64 a0, .int .i64 a1, .int .i64 a2] := hW.keeps K1 (fun h => h)
       rw [← Lib.byteCells_append] at o1
       rw [List.nil_append, Nat.zero_add] at o1
       rw [Nat.zero_add]
       have q1 : w1.cell? ⟨g, 1, none⟩ = some (.int .i64 a1) := hW1.cell 1))
  rw [rounds_succ]
  go_wp2_with (first
    | (go_at_call 46
       refine (C1.out _).mono ?_
       rintro e v1 ⟨B1, e1, rfl, hv1, hKv1, hBv1⟩
       have hKw1 := K1.trans hKv1 (fun _ _ h => h)
       have how1 := own_keeps o1 hKv1 (fun _ _ h => h)
       have hWv1 := hW1.keeps hKv1 (fun h => h))
    | (at_builtin
       refine wpList_append_rd _ rfl (.tmp 12) (.tmp 15) _ rfl w.heap.size 5 i0 _ 1 1 Try.underlying22 hi0 hz0 hz1 hz2 rfl Nat.one_pos A1 c1 (d0.length) (Lib.byteCells (d0)) rfl how1 B1 d1.length e1 (Lib.byteCells d1) rfl (Rd.own hv1) (byteCells_one _) (by simp only [maxLen]; omega) (by omega) hKw1.size ?_
       intro A2 c2 w2 o2 hg2 hat2
       have K2 := hKw1.grown hg2 (fun k hk => .inr (how1.lt k (by rw [ownBlock_slice]; exact hk)).1)
       have hW2 : Whole w2 g t #[.int .i64 a0, .int .i64 a1, .int .i64 a2] := hW.keeps K2 (fun h => h)
       rw [← Lib.byteCells_append] at o2
       have q2 : w2.cell? ⟨g, 2, none⟩ = some (.int .i64 a2) := hW2.cell 2))
  rw [rounds_succ]
  go_wp2_with (first
    | (go_at_call 46
       refine (C2.out _).mono ?_
       rintro e v2 ⟨B2, e2, rfl, hv2, hKv2, hBv2⟩
       have hKw2 := K2.trans hKv2 (fun _ _ h => h)
       have how2 := own_keeps o2 hKv2 (fun _ _ h => h)
       have hWv2 := hW2.keeps hKv2 (fun h => h))
    | (at_builtin
       refine wpList_append_rd _ rfl (.tmp 12) (.tmp 15) _ rfl w.heap.size 5 i0 _ 1 1 Try.underlying22 hi0 hz0 hz1 hz2 rfl Nat.one_pos A2 c2 (d0.length + d1.length) (Lib.byteCells (d0 ++ d1)) rfl how2 B2 d2.length e2 (Lib.byteCells d2) rfl (Rd.own hv2) (byteCells_one _) (by simp only [maxLen]; omega) (by omega) hKw2.size ?_
       intro A3 c3 w3 o3 hg3 hat3
       have K3 := hKw2.grown hg3 (fun k hk => .inr (how2.lt k (by rw [ownBlock_slice]; exact hk)).1)
       have hW3 : Whole w3 g t #[.int .i64 a0, .int .i64 a1, .int .i64 a2] := hW.keeps K3 (fun h => h)
       rw [← Lib.byteCells_append] at o3))
  rw [rounds_succ]
  go_wp2_with fail
  go_ret
  have e : d0 ++ (d1 ++ d2) = d0 ++ d1 ++ d2 := by simp
  have e2 : (d0 ++ (d1 ++ d2)).length = d0.length + d1.length + d2.length := by rw [e]; simp only [List.length_append]
  rw [e2, e]
  exact ⟨A3, c3, rfl, o3, K3, fun k hk => (o3.lt k (by rw [ownBlock_slice]; exact hk)).1⟩

set_option maxRecDepth 100000 in
set_option maxHeartbeats 2000000 in
theorem pkTexts3 (w : World) (g : Nat) (t : TypeId) (a0 a1 a2 : ByteArray) (h0 : a0.size ≤ 1000) (h1 : a1.size ≤ 1000) (h2 : a2.size ≤ 1000) (hW : Whole w g t #[.string a0, .string a1, .string a2]) :
    Calls Try.prog 31 #[.slice (some ⟨g, 0, none⟩) 3 3] w fun e w' => ∃ A c, e = .returned (.slice A (strB a0 ++ (strB a1 ++ strB a2)).length c) ∧ w'.ownsRow w.heap.size 5 1 (.slice A (strB a0 ++ (strB a1 ++ strB a2)).length c) (strB a0 ++ (strB a1 ++ strB a2)).length (Lib.byteCells (strB a0 ++ (strB a1 ++ strB a2))) ∧ Keeps (fun _ => False) w w' ∧ ∀ k, ob A = some k → w.heap.size ≤ k := by
  obtain ⟨i0, hi0, hz0, hz1, hz2⟩ := info_parts infoU8
  have l0 : (strB a0).length ≤ 1010 := by have := Lib.uvarint_length64 (x := a0.size) (by omega); rw [strB, List.length_append, sl_length]; omega
  have C0 := Lib.hid (fun w => pkText w a0 (by omega))
  have l1 : (strB a1).length ≤ 1010 := by have := Lib.uvarint_length64 (x := a1.size) (by omega); rw [strB, List.length_append, sl_length]; omega
  have C1 := Lib.hid (fun w => pkText w a1 (by omega))
  have l2 : (strB a2).length ≤ 1010 := by have := Lib.uvarint_length64 (x := a2.size) (by omega); rw [strB, List.length_append, sl_length]; omega
  have C2 := Lib.hid (fun w => pkText w a2 (by omega))
  clear h0 h1 h2
  generalize strB a0 = d0 at *
  generalize strB a1 = d1 at *
  generalize strB a2 = d2 at *
  have hlt := hW.lt
  have K0 := Keeps.refl (fun _ => False) w
  have o0 := World.ownsRow_nil w w.heap.size 5 1
  have hW0 := hW
  have q0 : w.cell? ⟨g, 0, none⟩ = some (.string a0) := hW.cell 0
  go_enter Try.func31, Try.ntmps31
  go_wp2_with fail
  refine wp_loop_rounds 4 ?_
  rw [rounds_succ]
  go_wp2_with (first
    | (go_at_call 29
       refine (C0.out _).mono ?_
       rintro e v0 ⟨B0, e0, rfl, hv0, hKv0, hBv0⟩
       have hKw0 := K0.trans hKv0 (fun _ _ h => h)
       have how0 := own_keeps o0 hKv0 (fun _ _ h => h)
       have hWv0 := hW0.keeps hKv0 (fun h => h))
    | (at_builtin
       refine wpList_append_rd _ rfl (.tmp 12) (.tmp 14) _ rfl w.heap.size 5 i0 _ 1 1 Try.underlying22 hi0 hz0 hz1 hz2 rfl Nat.one_pos none 0 0 (Lib.byteCells []) rfl how0 B0 d0.length e0 (Lib.byteCells d0) rfl (Rd.own hv0) (byteCells_one _) (by simp only [maxLen]; omega) (by omega) hKw0.size ?_
       intro A1 c1 w1 o1 hg1 hat1
       have K1 := hKw0.grown hg1 (fun k hk => .inr (how0.lt k (by rw [ownBlock_slice]; exact hk)).1)
       have hW1 : Whole w1 g t #[.string a0, .string a1, .string a2] := hW.keeps K1 (fun h => h)
       rw [← Lib.byteCells_append] at o1
       rw [List.nil_append, Nat.zero_add] at o1
       rw [Nat.zero_add]
       have q1 : w1.cell? ⟨g, 1, none⟩ = some (.string a1) := hW1.cell 1))
  rw [rounds_succ]
  go_wp2_with (first
    | (go_at_call 29
       refine (C1.out _).mono ?_
       rintro e v1 ⟨B1, e1, rfl, hv1, hKv1, hBv1⟩
       have hKw1 := K1.trans hKv1 (fun _ _ h => h)
       have how1 := own_keeps o1 hKv1 (fun _ _ h => h)
       have hWv1 := hW1.keeps hKv1 (fun h => h))
    | (at_builtin
       refine wpList_append_rd _ rfl (.tmp 12) (.tmp 14) _ rfl w.heap.size 5 i0 _ 1 1 Try.underlying22 hi0 hz0 hz1 hz2 rfl Nat.one_pos A1 c1 (d0.length) (Lib.byteCells (d0)) rfl how1 B1 d1.length e1 (Lib.byteCells d1) rfl (Rd.own hv1) (byteCells_one _) (by simp only [maxLen]; omega) (by omega) hKw1.size ?_
       intro A2 c2 w2 o2 hg2 hat2
       have K2 := hKw1.grown hg2 (fun k hk => .inr (how1.lt k (by rw [ownBlock_slice]; exact hk)).1)
       have hW2 : Whole w2 g t #[.string a0, .string a1, .string a2] := hW.keeps K2 (fun h => h)
       rw [← Lib.byteCells_append] at o2
       have q2 : w2.cell? ⟨g, 2, none⟩ = some (.string a2) := hW2.cell 2))
  rw [rounds_succ]
  go_wp2_with (first
    | (go_at_call 29
       refine (C2.out _).mono ?_
       rintro e v2 ⟨B2, e2, rfl, hv2, hKv2, hBv2⟩
       have hKw2 := K2.trans hKv2 (fun _ _ h => h)
       have how2 := own_keeps o2 hKv2 (fun _ _ h => h)
       have hWv2 := hW2.keeps hKv2 (fun h => h))
    | (at_builtin
       refine wpList_append_rd _ rfl (.tmp 12) (.tmp 14) _ rfl w.heap.size 5 i0 _ 1 1 Try.underlying22 hi0 hz0 hz1 hz2 rfl Nat.one_pos A2 c2 (d0.length + d1.length) (Lib.byteCells (d0 ++ d1)) rfl how2 B2 d2.length e2 (Lib.byteCells d2) rfl (Rd.own hv2) (byteCells_one _) (by simp only [maxLen]; omega) (by omega) hKw2.size ?_
       intro A3 c3 w3 o3 hg3 hat3
       have K3 := hKw2.grown hg3 (fun k hk => .inr (how2.lt k (by rw [ownBlock_slice]; exact hk)).1)
       have hW3 : Whole w3 g t #[.string a0, .string a1, .string a2] := hW.keeps K3 (fun h => h)
       rw [← Lib.byteCells_append] at o3))
  rw [rounds_succ]
  go_wp2_with fail
  go_ret
  have e : d0 ++ (d1 ++ d2) = d0 ++ d1 ++ d2 := by simp
  have e2 : (d0 ++ (d1 ++ d2)).length = d0.length + d1.length + d2.length := by rw [e]; simp only [List.length_append]
  rw [e2, e]
  exact ⟨A3, c3, rfl, o3, K3, fun k hk => (o3.lt k (by rw [ownBlock_slice]; exact hk)).1⟩
end Go.Proofs.Ytgnlfbekkddmiaa
