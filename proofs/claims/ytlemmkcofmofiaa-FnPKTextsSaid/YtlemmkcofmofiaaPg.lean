/- Progress: put into a buffer, and the specification's bytes of it. Conditions: numbers of 64 bits. -/
import Derived.Test.YtlemmkcofmofiaaPrVar
import Derived.Test.YtlemmkcofmofiaaEncC
namespace Go.Proofs.Ytlemmkcofmofiaa
open Go.RowKit

set_option maxRecDepth 100000 in
set_option maxHeartbeats 1000000 in
theorem pgEncode3 (w : World) (base bb : Nat) (A : Option Addr) (c : Nat) (l : List UInt8) (v : Int) (hv : v < 54420) (p0 p1 p2 p3 p4 p5 : Nat) (h0 : p0 < 18446744073709551616) (h1 : p1 < 18446744073709551616) (h2 : p2 < 18446744073709551616) (h3 : p3 < 18446744073709551616) (h4 : p4 < 18446744073709551616) (h5 : p5 < 18446744073709551616) (hB : BufAt w base bb A c l) (hn : l.length ≤ 1000) :
    Calls Try.prog 109 #[.agg #[.int .u64 p0, .int .u64 p1, .int .u64 p2, .int .u64 p3, .int .u64 p4, .int .u64 p5], .pointer (some ⟨bb, 0, none⟩), .int .i64 v] w fun e w' => ∃ A' c', e = .returned (.tuple #[]) ∧ Put w w' base bb A A' c' (l ++ (Lib.uvarint p0 ++ (Lib.uvarint p1 ++ (Lib.uvarint p2)))) := by
  have hlt := hB.blk.lt
  have k0 := (Keeps.refl (fun _ => False) w).alloc (.cells #[.int .u64 p0, .int .u64 p1, .int .u64 p2, .int .u64 p3, .int .u64 p4, .int .u64 p5] 74)
  have hB0 := hB.keeps k0 (fun h => h) (fun _ _ h => h)
  have hW0 := Whole.new w 74 #[.int .u64 p0, .int .u64 p1, .int .u64 p2, .int .u64 p3, .int .u64 p4, .int .u64 p5]
  have hrow := hB.row_lo
  have H0 := Lib.hid h0
  have l0 := Lib.uvarint_length64 h0
  clear h0
  have H1 := Lib.hid h1
  have l1 := Lib.uvarint_length64 h1
  clear h1
  have H2 := Lib.hid h2
  have l2 := Lib.uvarint_length64 h2
  clear h2
  have H3 := Lib.hid h3
  have l3 := Lib.uvarint_length64 h3
  clear h3
  have H4 := Lib.hid h4
  have l4 := Lib.uvarint_length64 h4
  clear h4
  have H5 := Lib.hid h5
  have l5 := Lib.uvarint_length64 h5
  clear h5
  have i1 : ¬ (54420 : Int) ≤ v := by omega
  have i2 : ¬ (54460 : Int) ≤ v := by omega
  clear hv
  go_enter Try.func109, Try.ntmps109
  go_wp2_with (first | (go_at_call 111; go_in) | (go_at_call 113; go_in))
  refine (putUv _ base bb A c _ p0 hB0 (by first | omega | (simp only [List.length_append]; omega)) H0.out).mono ?_
  rintro e w1 ⟨A1, c1, rfl, hQ1⟩
  have hP1 := hQ1
  have hW1 := hW0.keeps hP1.keeps (by rintro (h | h); (omega); exact absurd (hrow _ h).2 (by omega))
  have q1 : w1.cell? ⟨w.heap.size, 1, none⟩ = some (.int .u64 p1) := hW1.cell 1
  go_wp2_with (first | (go_at_call 111; go_in) | (go_at_call 113; go_in))
  refine (putUv _ base bb A1 c1 _ p1 hP1.at' (by first | omega | (simp only [List.length_append]; omega)) H1.out).mono ?_
  rintro e w2 ⟨A2, c2, rfl, hQ2⟩
  have hP2 := hP1.trans hQ2
  have hW2 := hW0.keeps hP2.keeps (by rintro (h | h); (omega); exact absurd (hrow _ h).2 (by omega))
  have q2 : w2.cell? ⟨w.heap.size, 2, none⟩ = some (.int .u64 p2) := hW2.cell 2
  go_wp2_with (first | (go_at_call 111; go_in) | (go_at_call 113; go_in))
  refine (putUv _ base bb A2 c2 _ p2 hP2.at' (by first | omega | (simp only [List.length_append]; omega)) H2.out).mono ?_
  rintro e w3 ⟨A3, c3, rfl, hQ3⟩
  have hP3 := hP2.trans hQ3
  go_wp2_with (first | (go_at_call 111; go_in) | (go_at_call 113; go_in))
  go_end0
  first | refine ⟨A3, c3, rfl, ?_⟩ | refine ⟨rfl, A3, c3, ?_⟩
  have e : l ++ (Lib.uvarint p0 ++ (Lib.uvarint p1 ++ (Lib.uvarint p2))) = l ++ Lib.uvarint p0 ++ Lib.uvarint p1 ++ Lib.uvarint p2 := by simp
  rw [e]
  exact hP3.behind k0

set_option maxRecDepth 100000 in
set_option maxHeartbeats 1000000 in
theorem pgEncode5 (w : World) (base bb : Nat) (A : Option Addr) (c : Nat) (l : List UInt8) (v : Int) (hv : 54420 ≤ v) (hv2 : v < 54460) (p0 p1 p2 p3 p4 p5 : Nat) (h0 : p0 < 18446744073709551616) (h1 : p1 < 18446744073709551616) (h2 : p2 < 18446744073709551616) (h3 : p3 < 18446744073709551616) (h4 : p4 < 18446744073709551616) (h5 : p5 < 18446744073709551616) (hB : BufAt w base bb A c l) (hn : l.length ≤ 1000) :
    Calls Try.prog 109 #[.agg #[.int .u64 p0, .int .u64 p1, .int .u64 p2, .int .u64 p3, .int .u64 p4, .int .u64 p5], .pointer (some ⟨bb, 0, none⟩), .int .i64 v] w fun e w' => ∃ A' c', e = .returned (.tuple #[]) ∧ Put w w' base bb A A' c' (l ++ (Lib.uvarint p0 ++ (Lib.uvarint p1 ++ (Lib.uvarint p2 ++ (Lib.uvarint p3 ++ (Lib.uvarint p4)))))) := by
  have hlt := hB.blk.lt
  have k0 := (Keeps.refl (fun _ => False) w).alloc (.cells #[.int .u64 p0, .int .u64 p1, .int .u64 p2, .int .u64 p3, .int .u64 p4, .int .u64 p5] 74)
  have hB0 := hB.keeps k0 (fun h => h) (fun _ _ h => h)
  have hW0 := Whole.new w 74 #[.int .u64 p0, .int .u64 p1, .int .u64 p2, .int .u64 p3, .int .u64 p4, .int .u64 p5]
  have hrow := hB.row_lo
  have H0 := Lib.hid h0
  have l0 := Lib.uvarint_length64 h0
  clear h0
  have H1 := Lib.hid h1
  have l1 := Lib.uvarint_length64 h1
  clear h1
  have H2 := Lib.hid h2
  have l2 := Lib.uvarint_length64 h2
  clear h2
  have H3 := Lib.hid h3
  have l3 := Lib.uvarint_length64 h3
  clear h3
  have H4 := Lib.hid h4
  have l4 := Lib.uvarint_length64 h4
  clear h4
  have H5 := Lib.hid h5
  have l5 := Lib.uvarint_length64 h5
  clear h5
  have i1 : (54420 : Int) ≤ v := by omega
  have i2 : ¬ (54460 : Int) ≤ v := by omega
  clear hv hv2
  go_enter Try.func109, Try.ntmps109
  go_wp2_with (first | (go_at_call 111; go_in) | (go_at_call 113; go_in))
  refine (putUv _ base bb A c _ p0 hB0 (by first | omega | (simp only [List.length_append]; omega)) H0.out).mono ?_
  rintro e w1 ⟨A1, c1, rfl, hQ1⟩
  have hP1 := hQ1
  have hW1 := hW0.keeps hP1.keeps (by rintro (h | h); (omega); exact absurd (hrow _ h).2 (by omega))
  have q1 : w1.cell? ⟨w.heap.size, 1, none⟩ = some (.int .u64 p1) := hW1.cell 1
  go_wp2_with (first | (go_at_call 111; go_in) | (go_at_call 113; go_in))
  refine (putUv _ base bb A1 c1 _ p1 hP1.at' (by first | omega | (simp only [List.length_append]; omega)) H1.out).mono ?_
  rintro e w2 ⟨A2, c2, rfl, hQ2⟩
  have hP2 := hP1.trans hQ2
  have hW2 := hW0.keeps hP2.keeps (by rintro (h | h); (omega); exact absurd (hrow _ h).2 (by omega))
  have q2 : w2.cell? ⟨w.heap.size, 2, none⟩ = some (.int .u64 p2) := hW2.cell 2
  go_wp2_with (first | (go_at_call 111; go_in) | (go_at_call 113; go_in))
  refine (putUv _ base bb A2 c2 _ p2 hP2.at' (by first | omega | (simp only [List.length_append]; omega)) H2.out).mono ?_
  rintro e w3 ⟨A3, c3, rfl, hQ3⟩
  have hP3 := hP2.trans hQ3
  have hW3 := hW0.keeps hP3.keeps (by rintro (h | h); (omega); exact absurd (hrow _ h).2 (by omega))
  have q3 : w3.cell? ⟨w.heap.size, 3, none⟩ = some (.int .u64 p3) := hW3.cell 3
  go_wp2_with (first | (go_at_call 111; go_in) | (go_at_call 113; go_in))
  refine (putUv _ base bb A3 c3 _ p3 hP3.at' (by first | omega | (simp only [List.length_append]; omega)) H3.out).mono ?_
  rintro e w4 ⟨A4, c4, rfl, hQ4⟩
  have hP4 := hP3.trans hQ4
  have hW4 := hW0.keeps hP4.keeps (by rintro (h | h); (omega); exact absurd (hrow _ h).2 (by omega))
  have q4 : w4.cell? ⟨w.heap.size, 4, none⟩ = some (.int .u64 p4) := hW4.cell 4
  go_wp2_with (first | (go_at_call 111; go_in) | (go_at_call 113; go_in))
  refine (putUv _ base bb A4 c4 _ p4 hP4.at' (by first | omega | (simp only [List.length_append]; omega)) H4.out).mono ?_
  rintro e w5 ⟨A5, c5, rfl, hQ5⟩
  have hP5 := hP4.trans hQ5
  go_wp2_with (first | (go_at_call 111; go_in) | (go_at_call 113; go_in))
  go_end0
  first | refine ⟨A5, c5, rfl, ?_⟩ | refine ⟨rfl, A5, c5, ?_⟩
  have e : l ++ (Lib.uvarint p0 ++ (Lib.uvarint p1 ++ (Lib.uvarint p2 ++ (Lib.uvarint p3 ++ (Lib.uvarint p4))))) = l ++ Lib.uvarint p0 ++ Lib.uvarint p1 ++ Lib.uvarint p2 ++ Lib.uvarint p3 ++ Lib.uvarint p4 := by simp
  rw [e]
  exact hP5.behind k0

set_option maxRecDepth 100000 in
set_option maxHeartbeats 1000000 in
theorem pgEncode6 (w : World) (base bb : Nat) (A : Option Addr) (c : Nat) (l : List UInt8) (v : Int) (hv : 54460 ≤ v) (p0 p1 p2 p3 p4 p5 : Nat) (h0 : p0 < 18446744073709551616) (h1 : p1 < 18446744073709551616) (h2 : p2 < 18446744073709551616) (h3 : p3 < 18446744073709551616) (h4 : p4 < 18446744073709551616) (h5 : p5 < 18446744073709551616) (hB : BufAt w base bb A c l) (hn : l.length ≤ 1000) :
    Calls Try.prog 109 #[.agg #[.int .u64 p0, .int .u64 p1, .int .u64 p2, .int .u64 p3, .int .u64 p4, .int .u64 p5], .pointer (some ⟨bb, 0, none⟩), .int .i64 v] w fun e w' => ∃ A' c', e = .returned (.tuple #[]) ∧ Put w w' base bb A A' c' (l ++ (Lib.uvarint p0 ++ (Lib.uvarint p1 ++ (Lib.uvarint p2 ++ (Lib.uvarint p3 ++ (Lib.uvarint p4 ++ (Lib.uvarint p5))))))) := by
  have hlt := hB.blk.lt
  have k0 := (Keeps.refl (fun _ => False) w).alloc (.cells #[.int .u64 p0, .int .u64 p1, .int .u64 p2, .int .u64 p3, .int .u64 p4, .int .u64 p5] 74)
  have hB0 := hB.keeps k0 (fun h => h) (fun _ _ h => h)
  have hW0 := Whole.new w 74 #[.int .u64 p0, .int .u64 p1, .int .u64 p2, .int .u64 p3, .int .u64 p4, .int .u64 p5]
  have hrow := hB.row_lo
  have H0 := Lib.hid h0
  have l0 := Lib.uvarint_length64 h0
  clear h0
  have H1 := Lib.hid h1
  have l1 := Lib.uvarint_length64 h1
  clear h1
  have H2 := Lib.hid h2
  have l2 := Lib.uvarint_length64 h2
  clear h2
  have H3 := Lib.hid h3
  have l3 := Lib.uvarint_length64 h3
  clear h3
  have H4 := Lib.hid h4
  have l4 := Lib.uvarint_length64 h4
  clear h4
  have H5 := Lib.hid h5
  have l5 := Lib.uvarint_length64 h5
  clear h5
  have i1 : (54420 : Int) ≤ v := by omega
  have i2 : (54460 : Int) ≤ v := by omega
  clear hv
  go_enter Try.func109, Try.ntmps109
  go_wp2_with (first | (go_at_call 111; go_in) | (go_at_call 113; go_in))
  refine (putUv _ base bb A c _ p0 hB0 (by first | omega | (simp only [List.length_append]; omega)) H0.out).mono ?_
  rintro e w1 ⟨A1, c1, rfl, hQ1⟩
  have hP1 := hQ1
  have hW1 := hW0.keeps hP1.keeps (by rintro (h | h); (omega); exact absurd (hrow _ h).2 (by omega))
  have q1 : w1.cell? ⟨w.heap.size, 1, none⟩ = some (.int .u64 p1) := hW1.cell 1
  go_wp2_with (first | (go_at_call 111; go_in) | (go_at_call 113; go_in))
  refine (putUv _ base bb A1 c1 _ p1 hP1.at' (by first | omega | (simp only [List.length_append]; omega)) H1.out).mono ?_
  rintro e w2 ⟨A2, c2, rfl, hQ2⟩
  have hP2 := hP1.trans hQ2
  have hW2 := hW0.keeps hP2.keeps (by rintro (h | h); (omega); exact absurd (hrow _ h).2 (by omega))
  have q2 : w2.cell? ⟨w.heap.size, 2, none⟩ = some (.int .u64 p2) := hW2.cell 2
  go_wp2_with (first | (go_at_call 111; go_in) | (go_at_call 113; go_in))
  refine (putUv _ base bb A2 c2 _ p2 hP2.at' (by first | omega | (simp only [List.length_append]; omega)) H2.out).mono ?_
  rintro e w3 ⟨A3, c3, rfl, hQ3⟩
  have hP3 := hP2.trans hQ3
  have hW3 := hW0.keeps hP3.keeps (by rintro (h | h); (omega); exact absurd (hrow _ h).2 (by omega))
  have q3 : w3.cell? ⟨w.heap.size, 3, none⟩ = some (.int .u64 p3) := hW3.cell 3
  go_wp2_with (first | (go_at_call 111; go_in) | (go_at_call 113; go_in))
  refine (putUv _ base bb A3 c3 _ p3 hP3.at' (by first | omega | (simp only [List.length_append]; omega)) H3.out).mono ?_
  rintro e w4 ⟨A4, c4, rfl, hQ4⟩
  have hP4 := hP3.trans hQ4
  have hW4 := hW0.keeps hP4.keeps (by rintro (h | h); (omega); exact absurd (hrow _ h).2 (by omega))
  have q4 : w4.cell? ⟨w.heap.size, 4, none⟩ = some (.int .u64 p4) := hW4.cell 4
  go_wp2_with (first | (go_at_call 111; go_in) | (go_at_call 113; go_in))
  refine (putUv _ base bb A4 c4 _ p4 hP4.at' (by first | omega | (simp only [List.length_append]; omega)) H4.out).mono ?_
  rintro e w5 ⟨A5, c5, rfl, hQ5⟩
  have hP5 := hP4.trans hQ5
  have hW5 := hW0.keeps hP5.keeps (by rintro (h | h); (omega); exact absurd (hrow _ h).2 (by omega))
  have q5 : w5.cell? ⟨w.heap.size, 5, none⟩ = some (.int .u64 p5) := hW5.cell 5
  go_wp2_with (first | (go_at_call 111; go_in) | (go_at_call 113; go_in))
  refine (putUv _ base bb A5 c5 _ p5 hP5.at' (by first | omega | (simp only [List.length_append]; omega)) H5.out).mono ?_
  rintro e w6 ⟨A6, c6, rfl, hQ6⟩
  have hP6 := hP5.trans hQ6
  go_wp2_with (first | (go_at_call 111; go_in) | (go_at_call 113; go_in))
  go_end0
  first | refine ⟨A6, c6, rfl, ?_⟩ | refine ⟨rfl, A6, c6, ?_⟩
  have e : l ++ (Lib.uvarint p0 ++ (Lib.uvarint p1 ++ (Lib.uvarint p2 ++ (Lib.uvarint p3 ++ (Lib.uvarint p4 ++ (Lib.uvarint p5)))))) = l ++ Lib.uvarint p0 ++ Lib.uvarint p1 ++ Lib.uvarint p2 ++ Lib.uvarint p3 ++ Lib.uvarint p4 ++ Lib.uvarint p5 := by simp
  rw [e]
  exact hP6.behind k0

set_option maxRecDepth 100000 in
set_option maxHeartbeats 2000000 in
theorem pgSpec3 (w : World) (v : Int) (hv : v < 54420) (p0 p1 p2 p3 p4 p5 : Nat) (h0 : p0 < 18446744073709551616) (h1 : p1 < 18446744073709551616) (h2 : p2 < 18446744073709551616) (h3 : p3 < 18446744073709551616) (h4 : p4 < 18446744073709551616) (h5 : p5 < 18446744073709551616) :
    Calls Try.prog 11 #[.agg #[.int .u64 p0, .int .u64 p1, .int .u64 p2, .int .u64 p3, .int .u64 p4, .int .u64 p5], .int .i64 v] w fun e w' => ∃ A c, e = .returned (.slice A (Lib.uvarint p0 ++ (Lib.uvarint p1 ++ (Lib.uvarint p2))).length c) ∧ w'.ownsRow w.heap.size 5 1 (.slice A (Lib.uvarint p0 ++ (Lib.uvarint p1 ++ (Lib.uvarint p2))).length c) (Lib.uvarint p0 ++ (Lib.uvarint p1 ++ (Lib.uvarint p2))).length (Lib.byteCells (Lib.uvarint p0 ++ (Lib.uvarint p1 ++ (Lib.uvarint p2)))) ∧ Keeps (fun _ => False) w w' ∧ ∀ k, ob A = some k → w.heap.size ≤ k := by
  obtain ⟨i0, hi0, hz0, hz1, hz2⟩ := info_parts infoU8
  have K0 := (Keeps.refl (fun _ => False) w).alloc (.cells #[.int .u64 p0, .int .u64 p1, .int .u64 p2, .int .u64 p3, .int .u64 p4, .int .u64 p5] 24)
  have hW0 := Whole.new w 24 #[.int .u64 p0, .int .u64 p1, .int .u64 p2, .int .u64 p3, .int .u64 p4, .int .u64 p5]
  have o0 : (w.alloc (.cells #[.int .u64 p0, .int .u64 p1, .int .u64 p2, .int .u64 p3, .int .u64 p4, .int .u64 p5] 24)).ownsRow w.heap.size 5 1 (.slice none ([] : List UInt8).length 0) ([] : List UInt8).length (Lib.byteCells []) := World.ownsRow_nil _ _ _ _
  have q0 : (w.alloc (.cells #[.int .u64 p0, .int .u64 p1, .int .u64 p2, .int .u64 p3, .int .u64 p4, .int .u64 p5] 24)).cell? ⟨w.heap.size, 0, none⟩ = some (.int .u64 p0) := hW0.cell 0
  have H0 := Lib.hid h0
  have l0 := Lib.uvarint_length64 h0
  clear h0
  have H1 := Lib.hid h1
  have l1 := Lib.uvarint_length64 h1
  clear h1
  have H2 := Lib.hid h2
  have l2 := Lib.uvarint_length64 h2
  clear h2
  have H3 := Lib.hid h3
  have l3 := Lib.uvarint_length64 h3
  clear h3
  have H4 := Lib.hid h4
  have l4 := Lib.uvarint_length64 h4
  clear h4
  have H5 := Lib.hid h5
  have l5 := Lib.uvarint_length64 h5
  clear h5
  have i1 : ¬ (54420 : Int) ≤ v := by omega
  have i2 : ¬ (54460 : Int) ≤ v := by omega
  clear hv
  go_enter Try.func11, Try.ntmps11
  go_wp2_with fail
  refine wp_loop_rounds 4 ?_
  rw [rounds_succ]
  go_wp2_with (first
    | (go_at_call 41
       refine (prVar _ p0 H0.out).mono ?_
       rintro e v0 ⟨B0, d0, rfl, hv0, hKv0, hBv0⟩
       have hKw0 := K0.trans hKv0 (fun _ _ h => h)
       have how0 := own_keeps o0 hKv0 (fun _ _ h => h)
       have hWv0 := hW0.keeps hKv0 (fun h => h))
    | (at_builtin
       refine wpList_append_rd _ rfl (.tmp 20) (.tmp 22) _ rfl w.heap.size 5 i0 _ 1 1 Try.underlying26 hi0 hz0 hz1 hz2 rfl Nat.one_pos none 0 0 (Lib.byteCells []) rfl how0 B0 (Lib.uvarint p0).length d0 (Lib.byteCells (Lib.uvarint p0)) rfl (Rd.own hv0) (byteCells_one _) (by first | (simp only [maxLen]; omega) | (simp only [maxLen, List.length_append]; omega)) (by first | omega | (simp only [List.length_append]; omega)) hKw0.size ?_
       intro A1 c1 w1 o1 hg1 hat1
       have K1 := hKw0.grown hg1 (fun k hk => .inr (how0.lt k (by rw [ownBlock_slice]; exact hk)).1)
       have hW1 := hWv0.grown hg1 (by
         have h := own_far how0 hWv0 (by decide)
         rw [ownBlock_slice] at h
         exact Ne.symm h)
       rw [← Lib.byteCells_append] at o1
       rw [List.nil_append, Nat.zero_add] at o1
       rw [Nat.zero_add]
       have q1 : w1.cell? ⟨w.heap.size, 1, none⟩ = some (.int .u64 p1) := hW1.cell 1))
  rw [rounds_succ]
  go_wp2_with (first
    | (go_at_call 41
       refine (prVar _ p1 H1.out).mono ?_
       rintro e v1 ⟨B1, d1, rfl, hv1, hKv1, hBv1⟩
       have hKw1 := K1.trans hKv1 (fun _ _ h => h)
       have how1 := own_keeps o1 hKv1 (fun _ _ h => h)
       have hWv1 := hW1.keeps hKv1 (fun h => h))
    | (at_builtin
       refine wpList_append_rd _ rfl (.tmp 20) (.tmp 22) _ rfl w.heap.size 5 i0 _ 1 1 Try.underlying26 hi0 hz0 hz1 hz2 rfl Nat.one_pos A1 c1 ((Lib.uvarint p0).length) (Lib.byteCells (Lib.uvarint p0)) rfl how1 B1 (Lib.uvarint p1).length d1 (Lib.byteCells (Lib.uvarint p1)) rfl (Rd.own hv1) (byteCells_one _) (by first | (simp only [maxLen]; omega) | (simp only [maxLen, List.length_append]; omega)) (by first | omega | (simp only [List.length_append]; omega)) hKw1.size ?_
       intro A2 c2 w2 o2 hg2 hat2
       have K2 := hKw1.grown hg2 (fun k hk => .inr (how1.lt k (by rw [ownBlock_slice]; exact hk)).1)
       have hW2 := hWv1.grown hg2 (by
         have h := own_far how1 hWv1 (by decide)
         rw [ownBlock_slice] at h
         exact Ne.symm h)
       rw [← Lib.byteCells_append] at o2
       have q2 : w2.cell? ⟨w.heap.size, 2, none⟩ = some (.int .u64 p2) := hW2.cell 2))
  rw [rounds_succ]
  go_wp2_with (first
    | (go_at_call 41
       refine (prVar _ p2 H2.out).mono ?_
       rintro e v2 ⟨B2, d2, rfl, hv2, hKv2, hBv2⟩
       have hKw2 := K2.trans hKv2 (fun _ _ h => h)
       have how2 := own_keeps o2 hKv2 (fun _ _ h => h)
       have hWv2 := hW2.keeps hKv2 (fun h => h))
    | (at_builtin
       refine wpList_append_rd _ rfl (.tmp 20) (.tmp 22) _ rfl w.heap.size 5 i0 _ 1 1 Try.underlying26 hi0 hz0 hz1 hz2 rfl Nat.one_pos A2 c2 ((Lib.uvarint p0).length + (Lib.uvarint p1).length) (Lib.byteCells (Lib.uvarint p0 ++ Lib.uvarint p1)) rfl how2 B2 (Lib.uvarint p2).length d2 (Lib.byteCells (Lib.uvarint p2)) rfl (Rd.own hv2) (byteCells_one _) (by first | (simp only [maxLen]; omega) | (simp only [maxLen, List.length_append]; omega)) (by first | omega | (simp only [List.length_append]; omega)) hKw2.size ?_
       intro A3 c3 w3 o3 hg3 hat3
       have K3 := hKw2.grown hg3 (fun k hk => .inr (how2.lt k (by rw [ownBlock_slice]; exact hk)).1)
       have hW3 := hWv2.grown hg3 (by
         have h := own_far how2 hWv2 (by decide)
         rw [ownBlock_slice] at h
         exact Ne.symm h)
       rw [← Lib.byteCells_append] at o3))
  rw [rounds_succ]
  go_wp2_with fail
  go_ret
  have e : Lib.uvarint p0 ++ (Lib.uvarint p1 ++ (Lib.uvarint p2)) = Lib.uvarint p0 ++ Lib.uvarint p1 ++ Lib.uvarint p2 := by simp
  have e2 : (Lib.uvarint p0 ++ (Lib.uvarint p1 ++ (Lib.uvarint p2))).length = (Lib.uvarint p0).length + (Lib.uvarint p1).length + (Lib.uvarint p2).length := by rw [e]; simp only [List.length_append]
  rw [e2, e]
  exact ⟨A3, c3, rfl, o3, K3, fun k hk => (o3.lt k (by rw [ownBlock_slice]; exact hk)).1⟩

set_option maxRecDepth 100000 in
set_option maxHeartbeats 2000000 in
theorem pgSpec5 (w : World) (v : Int) (hv : 54420 ≤ v) (hv2 : v < 54460) (p0 p1 p2 p3 p4 p5 : Nat) (h0 : p0 < 18446744073709551616) (h1 : p1 < 18446744073709551616) (h2 : p2 < 18446744073709551616) (h3 : p3 < 18446744073709551616) (h4 : p4 < 18446744073709551616) (h5 : p5 < 18446744073709551616) :
    Calls Try.prog 11 #[.agg #[.int .u64 p0, .int .u64 p1, .int .u64 p2, .int .u64 p3, .int .u64 p4, .int .u64 p5], .int .i64 v] w fun e w' => ∃ A c, e = .returned (.slice A (Lib.uvarint p0 ++ (Lib.uvarint p1 ++ (Lib.uvarint p2 ++ (Lib.uvarint p3 ++ (Lib.uvarint p4))))).length c) ∧ w'.ownsRow w.heap.size 5 1 (.slice A (Lib.uvarint p0 ++ (Lib.uvarint p1 ++ (Lib.uvarint p2 ++ (Lib.uvarint p3 ++ (Lib.uvarint p4))))).length c) (Lib.uvarint p0 ++ (Lib.uvarint p1 ++ (Lib.uvarint p2 ++ (Lib.uvarint p3 ++ (Lib.uvarint p4))))).length (Lib.byteCells (Lib.uvarint p0 ++ (Lib.uvarint p1 ++ (Lib.uvarint p2 ++ (Lib.uvarint p3 ++ (Lib.uvarint p4)))))) ∧ Keeps (fun _ => False) w w' ∧ ∀ k, ob A = some k → w.heap.size ≤ k := by
  obtain ⟨i0, hi0, hz0, hz1, hz2⟩ := info_parts infoU8
  have K0 := (Keeps.refl (fun _ => False) w).alloc (.cells #[.int .u64 p0, .int .u64 p1, .int .u64 p2, .int .u64 p3, .int .u64 p4, .int .u64 p5] 24)
  have hW0 := Whole.new w 24 #[.int .u64 p0, .int .u64 p1, .int .u64 p2, .int .u64 p3, .int .u64 p4, .int .u64 p5]
  have o0 : (w.alloc (.cells #[.int .u64 p0, .int .u64 p1, .int .u64 p2, .int .u64 p3, .int .u64 p4, .int .u64 p5] 24)).ownsRow w.heap.size 5 1 (.slice none ([] : List UInt8).length 0) ([] : List UInt8).length (Lib.byteCells []) := World.ownsRow_nil _ _ _ _
  have q0 : (w.alloc (.cells #[.int .u64 p0, .int .u64 p1, .int .u64 p2, .int .u64 p3, .int .u64 p4, .int .u64 p5] 24)).cell? ⟨w.heap.size, 0, none⟩ = some (.int .u64 p0) := hW0.cell 0
  have H0 := Lib.hid h0
  have l0 := Lib.uvarint_length64 h0
  clear h0
  have H1 := Lib.hid h1
  have l1 := Lib.uvarint_length64 h1
  clear h1
  have H2 := Lib.hid h2
  have l2 := Lib.uvarint_length64 h2
  clear h2
  have H3 := Lib.hid h3
  have l3 := Lib.uvarint_length64 h3
  clear h3
  have H4 := Lib.hid h4
  have l4 := Lib.uvarint_length64 h4
  clear h4
  have H5 := Lib.hid h5
  have l5 := Lib.uvarint_length64 h5
  clear h5
  have i1 : (54420 : Int) ≤ v := by omega
  have i2 : ¬ (54460 : Int) ≤ v := by omega
  clear hv hv2
  go_enter Try.func11, Try.ntmps11
  go_wp2_with fail
  refine wp_loop_rounds 6 ?_
  rw [rounds_succ]
  go_wp2_with (first
    | (go_at_call 41
       refine (prVar _ p0 H0.out).mono ?_
       rintro e v0 ⟨B0, d0, rfl, hv0, hKv0, hBv0⟩
       have hKw0 := K0.trans hKv0 (fun _ _ h => h)
       have how0 := own_keeps o0 hKv0 (fun _ _ h => h)
       have hWv0 := hW0.keeps hKv0 (fun h => h))
    | (at_builtin
       refine wpList_append_rd _ rfl (.tmp 20) (.tmp 22) _ rfl w.heap.size 5 i0 _ 1 1 Try.underlying26 hi0 hz0 hz1 hz2 rfl Nat.one_pos none 0 0 (Lib.byteCells []) rfl how0 B0 (Lib.uvarint p0).length d0 (Lib.byteCells (Lib.uvarint p0)) rfl (Rd.own hv0) (byteCells_one _) (by first | (simp only [maxLen]; omega) | (simp only [maxLen, List.length_append]; omega)) (by first | omega | (simp only [List.length_append]; omega)) hKw0.size ?_
       intro A1 c1 w1 o1 hg1 hat1
       have K1 := hKw0.grown hg1 (fun k hk => .inr (how0.lt k (by rw [ownBlock_slice]; exact hk)).1)
       have hW1 := hWv0.grown hg1 (by
         have h := own_far how0 hWv0 (by decide)
         rw [ownBlock_slice] at h
         exact Ne.symm h)
       rw [← Lib.byteCells_append] at o1
       rw [List.nil_append, Nat.zero_add] at o1
       rw [Nat.zero_add]
       have q1 : w1.cell? ⟨w.heap.size, 1, none⟩ = some (.int .u64 p1) := hW1.cell 1))
  rw [rounds_succ]
  go_wp2_with (first
    | (go_at_call 41
       refine (prVar _ p1 H1.out).mono ?_
       rintro e v1 ⟨B1, d1, rfl, hv1, hKv1, hBv1⟩
       have hKw1 := K1.trans hKv1 (fun _ _ h => h)
       have how1 := own_keeps o1 hKv1 (fun _ _ h => h)
       have hWv1 := hW1.keeps hKv1 (fun h => h))
    | (at_builtin
       refine wpList_append_rd _ rfl (.tmp 20) (.tmp 22) _ rfl w.heap.size 5 i0 _ 1 1 Try.underlying26 hi0 hz0 hz1 hz2 rfl Nat.one_pos A1 c1 ((Lib.uvarint p0).length) (Lib.byteCells (Lib.uvarint p0)) rfl how1 B1 (Lib.uvarint p1).length d1 (Lib.byteCells (Lib.uvarint p1)) rfl (Rd.own hv1) (byteCells_one _) (by first | (simp only [maxLen]; omega) | (simp only [maxLen, List.length_append]; omega)) (by first | omega | (simp only [List.length_append]; omega)) hKw1.size ?_
       intro A2 c2 w2 o2 hg2 hat2
       have K2 := hKw1.grown hg2 (fun k hk => .inr (how1.lt k (by rw [ownBlock_slice]; exact hk)).1)
       have hW2 := hWv1.grown hg2 (by
         have h := own_far how1 hWv1 (by decide)
         rw [ownBlock_slice] at h
         exact Ne.symm h)
       rw [← Lib.byteCells_append] at o2
       have q2 : w2.cell? ⟨w.heap.size, 2, none⟩ = some (.int .u64 p2) := hW2.cell 2))
  rw [rounds_succ]
  go_wp2_with (first
    | (go_at_call 41
       refine (prVar _ p2 H2.out).mono ?_
       rintro e v2 ⟨B2, d2, rfl, hv2, hKv2, hBv2⟩
       have hKw2 := K2.trans hKv2 (fun _ _ h => h)
       have how2 := own_keeps o2 hKv2 (fun _ _ h => h)
       have hWv2 := hW2.keeps hKv2 (fun h => h))
    | (at_builtin
       refine wpList_append_rd _ rfl (.tmp 20) (.tmp 22) _ rfl w.heap.size 5 i0 _ 1 1 Try.underlying26 hi0 hz0 hz1 hz2 rfl Nat.one_pos A2 c2 ((Lib.uvarint p0).length + (Lib.uvarint p1).length) (Lib.byteCells (Lib.uvarint p0 ++ Lib.uvarint p1)) rfl how2 B2 (Lib.uvarint p2).length d2 (Lib.byteCells (Lib.uvarint p2)) rfl (Rd.own hv2) (byteCells_one _) (by first | (simp only [maxLen]; omega) | (simp only [maxLen, List.length_append]; omega)) (by first | omega | (simp only [List.length_append]; omega)) hKw2.size ?_
       intro A3 c3 w3 o3 hg3 hat3
       have K3 := hKw2.grown hg3 (fun k hk => .inr (how2.lt k (by rw [ownBlock_slice]; exact hk)).1)
       have hW3 := hWv2.grown hg3 (by
         have h := own_far how2 hWv2 (by decide)
         rw [ownBlock_slice] at h
         exact Ne.symm h)
       rw [← Lib.byteCells_append] at o3
       have q3 : w3.cell? ⟨w.heap.size, 3, none⟩ = some (.int .u64 p3) := hW3.cell 3))
  rw [rounds_succ]
  go_wp2_with (first
    | (go_at_call 41
       refine (prVar _ p3 H3.out).mono ?_
       rintro e v3 ⟨B3, d3, rfl, hv3, hKv3, hBv3⟩
       have hKw3 := K3.trans hKv3 (fun _ _ h => h)
       have how3 := own_keeps o3 hKv3 (fun _ _ h => h)
       have hWv3 := hW3.keeps hKv3 (fun h => h))
    | (at_builtin
       refine wpList_append_rd _ rfl (.tmp 20) (.tmp 22) _ rfl w.heap.size 5 i0 _ 1 1 Try.underlying26 hi0 hz0 hz1 hz2 rfl Nat.one_pos A3 c3 ((Lib.uvarint p0).length + (Lib.uvarint p1).length + (Lib.uvarint p2).length) (Lib.byteCells (Lib.uvarint p0 ++ Lib.uvarint p1 ++ Lib.uvarint p2)) rfl how3 B3 (Lib.uvarint p3).length d3 (Lib.byteCells (Lib.uvarint p3)) rfl (Rd.own hv3) (byteCells_one _) (by first | (simp only [maxLen]; omega) | (simp only [maxLen, List.length_append]; omega)) (by first | omega | (simp only [List.length_append]; omega)) hKw3.size ?_
       intro A4 c4 w4 o4 hg4 hat4
       have K4 := hKw3.grown hg4 (fun k hk => .inr (how3.lt k (by rw [ownBlock_slice]; exact hk)).1)
       have hW4 := hWv3.grown hg4 (by
         have h := own_far how3 hWv3 (by decide)
         rw [ownBlock_slice] at h
         exact Ne.symm h)
       rw [← Lib.byteCells_append] at o4
       have q4 : w4.cell? ⟨w.heap.size, 4, none⟩ = some (.int .u64 p4) := hW4.cell 4))
  rw [rounds_succ]
  go_wp2_with (first
    | (go_at_call 41
       refine (prVar _ p4 H4.out).mono ?_
       rintro e v4 ⟨B4, d4, rfl, hv4, hKv4, hBv4⟩
       have hKw4 := K4.trans hKv4 (fun _ _ h => h)
       have how4 := own_keeps o4 hKv4 (fun _ _ h => h)
       have hWv4 := hW4.keeps hKv4 (fun h => h))
    | (at_builtin
       refine wpList_append_rd _ rfl (.tmp 20) (.tmp 22) _ rfl w.heap.size 5 i0 _ 1 1 Try.underlying26 hi0 hz0 hz1 hz2 rfl Nat.one_pos A4 c4 ((Lib.uvarint p0).length + (Lib.uvarint p1).length + (Lib.uvarint p2).length + (Lib.uvarint p3).length) (Lib.byteCells (Lib.uvarint p0 ++ Lib.uvarint p1 ++ Lib.uvarint p2 ++ Lib.uvarint p3)) rfl how4 B4 (Lib.uvarint p4).length d4 (Lib.byteCells (Lib.uvarint p4)) rfl (Rd.own hv4) (byteCells_one _) (by first | (simp only [maxLen]; omega) | (simp only [maxLen, List.length_append]; omega)) (by first | omega | (simp only [List.length_append]; omega)) hKw4.size ?_
       intro A5 c5 w5 o5 hg5 hat5
       have K5 := hKw4.grown hg5 (fun k hk => .inr (how4.lt k (by rw [ownBlock_slice]; exact hk)).1)
       have hW5 := hWv4.grown hg5 (by
         have h := own_far how4 hWv4 (by decide)
         rw [ownBlock_slice] at h
         exact Ne.symm h)
       rw [← Lib.byteCells_append] at o5))
  rw [rounds_succ]
  go_wp2_with fail
  go_ret
  have e : Lib.uvarint p0 ++ (Lib.uvarint p1 ++ (Lib.uvarint p2 ++ (Lib.uvarint p3 ++ (Lib.uvarint p4)))) = Lib.uvarint p0 ++ Lib.uvarint p1 ++ Lib.uvarint p2 ++ Lib.uvarint p3 ++ Lib.uvarint p4 := by simp
  have e2 : (Lib.uvarint p0 ++ (Lib.uvarint p1 ++ (Lib.uvarint p2 ++ (Lib.uvarint p3 ++ (Lib.uvarint p4))))).length = (Lib.uvarint p0).length + (Lib.uvarint p1).length + (Lib.uvarint p2).length + (Lib.uvarint p3).length + (Lib.uvarint p4).length := by rw [e]; simp only [List.length_append]
  rw [e2, e]
  exact ⟨A5, c5, rfl, o5, K5, fun k hk => (o5.lt k (by rw [ownBlock_slice]; exact hk)).1⟩

set_option maxRecDepth 100000 in
set_option maxHeartbeats 2000000 in
theorem pgSpec6 (w : World) (v : Int) (hv : 54460 ≤ v) (p0 p1 p2 p3 p4 p5 : Nat) (h0 : p0 < 18446744073709551616) (h1 : p1 < 18446744073709551616) (h2 : p2 < 18446744073709551616) (h3 : p3 < 18446744073709551616) (h4 : p4 < 18446744073709551616) (h5 : p5 < 18446744073709551616) :
    Calls Try.prog 11 #[.agg #[.int .u64 p0, .int .u64 p1, .int .u64 p2, .int .u64 p3, .int .u64 p4, .int .u64 p5], .int .i64 v] w fun e w' => ∃ A c, e = .returned (.slice A (Lib.uvarint p0 ++ (Lib.uvarint p1 ++ (Lib.uvarint p2 ++ (Lib.uvarint p3 ++ (Lib.uvarint p4 ++ (Lib.uvarint p5)))))).length c) ∧ w'.ownsRow w.heap.size 5 1 (.slice A (Lib.uvarint p0 ++ (Lib.uvarint p1 ++ (Lib.uvarint p2 ++ (Lib.uvarint p3 ++ (Lib.uvarint p4 ++ (Lib.uvarint p5)))))).length c) (Lib.uvarint p0 ++ (Lib.uvarint p1 ++ (Lib.uvarint p2 ++ (Lib.uvarint p3 ++ (Lib.uvarint p4 ++ (Lib.uvarint p5)))))).length (Lib.byteCells (Lib.uvarint p0 ++ (Lib.uvarint p1 ++ (Lib.uvarint p2 ++ (Lib.uvarint p3 ++ (Lib.uvarint p4 ++ (Lib.uvarint p5))))))) ∧ Keeps (fun _ => False) w w' ∧ ∀ k, ob A = some k → w.heap.size ≤ k := by
  obtain ⟨i0, hi0, hz0, hz1, hz2⟩ := info_parts infoU8
  have K0 := (Keeps.refl (fun _ => False) w).alloc (.cells #[.int .u64 p0, .int .u64 p1, .int .u64 p2, .int .u64 p3, .int .u64 p4, .int .u64 p5] 24)
  have hW0 := Whole.new w 24 #[.int .u64 p0, .int .u64 p1, .int .u64 p2, .int .u64 p3, .int .u64 p4, .int .u64 p5]
  have o0 : (w.alloc (.cells #[.int .u64 p0, .int .u64 p1, .int .u64 p2, .int .u64 p3, .int .u64 p4, .int .u64 p5] 24)).ownsRow w.heap.size 5 1 (.slice none ([] : List UInt8).length 0) ([] : List UInt8).length (Lib.byteCells []) := World.ownsRow_nil _ _ _ _
  have q0 : (w.alloc (.cells #[.int .u64 p0, .int .u64 p1, .int .u64 p2, .int .u64 p3, .int .u64 p4, .int .u64 p5] 24)).cell? ⟨w.heap.size, 0, none⟩ = some (.int .u64 p0) := hW0.cell 0
  have H0 := Lib.hid h0
  have l0 := Lib.uvarint_length64 h0
  clear h0
  have H1 := Lib.hid h1
  have l1 := Lib.uvarint_length64 h1
  clear h1
  have H2 := Lib.hid h2
  have l2 := Lib.uvarint_length64 h2
  clear h2
  have H3 := Lib.hid h3
  have l3 := Lib.uvarint_length64 h3
  clear h3
  have H4 := Lib.hid h4
  have l4 := Lib.uvarint_length64 h4
  clear h4
  have H5 := Lib.hid h5
  have l5 := Lib.uvarint_length64 h5
  clear h5
  have i1 : (54420 : Int) ≤ v := by omega
  have i2 : (54460 : Int) ≤ v := by omega
  clear hv
  go_enter Try.func11, Try.ntmps11
  go_wp2_with fail
  refine wp_loop_rounds 7 ?_
  rw [rounds_succ]
  go_wp2_with (first
    | (go_at_call 41
       refine (prVar _ p0 H0.out).mono ?_
       rintro e v0 ⟨B0, d0, rfl, hv0, hKv0, hBv0⟩
       have hKw0 := K0.trans hKv0 (fun _ _ h => h)
       have how0 := own_keeps o0 hKv0 (fun _ _ h => h)
       have hWv0 := hW0.keeps hKv0 (fun h => h))
    | (at_builtin
       refine wpList_append_rd _ rfl (.tmp 20) (.tmp 22) _ rfl w.heap.size 5 i0 _ 1 1 Try.underlying26 hi0 hz0 hz1 hz2 rfl Nat.one_pos none 0 0 (Lib.byteCells []) rfl how0 B0 (Lib.uvarint p0).length d0 (Lib.byteCells (Lib.uvarint p0)) rfl (Rd.own hv0) (byteCells_one _) (by first | (simp only [maxLen]; omega) | (simp only [maxLen, List.length_append]; omega)) (by first | omega | (simp only [List.length_append]; omega)) hKw0.size ?_
       intro A1 c1 w1 o1 hg1 hat1
       have K1 := hKw0.grown hg1 (fun k hk => .inr (how0.lt k (by rw [ownBlock_slice]; exact hk)).1)
       have hW1 := hWv0.grown hg1 (by
         have h := own_far how0 hWv0 (by decide)
         rw [ownBlock_slice] at h
         exact Ne.symm h)
       rw [← Lib.byteCells_append] at o1
       rw [List.nil_append, Nat.zero_add] at o1
       rw [Nat.zero_add]
       have q1 : w1.cell? ⟨w.heap.size, 1, none⟩ = some (.int .u64 p1) := hW1.cell 1))
  rw [rounds_succ]
  go_wp2_with (first
    | (go_at_call 41
       refine (prVar _ p1 H1.out).mono ?_
       rintro e v1 ⟨B1, d1, rfl, hv1, hKv1, hBv1⟩
       have hKw1 := K1.trans hKv1 (fun _ _ h => h)
       have how1 := own_keeps o1 hKv1 (fun _ _ h => h)
       have hWv1 := hW1.keeps hKv1 (fun h => h))
    | (at_builtin
       refine wpList_append_rd _ rfl (.tmp 20) (.tmp 22) _ rfl w.heap.size 5 i0 _ 1 1 Try.underlying26 hi0 hz0 hz1 hz2 rfl Nat.one_pos A1 c1 ((Lib.uvarint p0).length) (Lib.byteCells (Lib.uvarint p0)) rfl how1 B1 (Lib.uvarint p1).length d1 (Lib.byteCells (Lib.uvarint p1)) rfl (Rd.own hv1) (byteCells_one _) (by first | (simp only [maxLen]; omega) | (simp only [maxLen, List.length_append]; omega)) (by first | omega | (simp only [List.length_append]; omega)) hKw1.size ?_
       intro A2 c2 w2 o2 hg2 hat2
       have K2 := hKw1.grown hg2 (fun k hk => .inr (how1.lt k (by rw [ownBlock_slice]; exact hk)).1)
       have hW2 := hWv1.grown hg2 (by
         have h := own_far how1 hWv1 (by decide)
         rw [ownBlock_slice] at h
         exact Ne.symm h)
       rw [← Lib.byteCells_append] at o2
       have q2 : w2.cell? ⟨w.heap.size, 2, none⟩ = some (.int .u64 p2) := hW2.cell 2))
  rw [rounds_succ]
  go_wp2_with (first
    | (go_at_call 41
       refine (prVar _ p2 H2.out).mono ?_
       rintro e v2 ⟨B2, d2, rfl, hv2, hKv2, hBv2⟩
       have hKw2 := K2.trans hKv2 (fun _ _ h => h)
       have how2 := own_keeps o2 hKv2 (fun _ _ h => h)
       have hWv2 := hW2.keeps hKv2 (fun h => h))
    | (at_builtin
       refine wpList_append_rd _ rfl (.tmp 20) (.tmp 22) _ rfl w.heap.size 5 i0 _ 1 1 Try.underlying26 hi0 hz0 hz1 hz2 rfl Nat.one_pos A2 c2 ((Lib.uvarint p0).length + (Lib.uvarint p1).length) (Lib.byteCells (Lib.uvarint p0 ++ Lib.uvarint p1)) rfl how2 B2 (Lib.uvarint p2).length d2 (Lib.byteCells (Lib.uvarint p2)) rfl (Rd.own hv2) (byteCells_one _) (by first | (simp only [maxLen]; omega) | (simp only [maxLen, List.length_append]; omega)) (by first | omega | (simp only [List.length_append]; omega)) hKw2.size ?_
       intro A3 c3 w3 o3 hg3 hat3
       have K3 := hKw2.grown hg3 (fun k hk => .inr (how2.lt k (by rw [ownBlock_slice]; exact hk)).1)
       have hW3 := hWv2.grown hg3 (by
         have h := own_far how2 hWv2 (by decide)
         rw [ownBlock_slice] at h
         exact Ne.symm h)
       rw [← Lib.byteCells_append] at o3
       have q3 : w3.cell? ⟨w.heap.size, 3, none⟩ = some (.int .u64 p3) := hW3.cell 3))
  rw [rounds_succ]
  go_wp2_with (first
    | (go_at_call 41
       refine (prVar _ p3 H3.out).mono ?_
       rintro e v3 ⟨B3, d3, rfl, hv3, hKv3, hBv3⟩
       have hKw3 := K3.trans hKv3 (fun _ _ h => h)
       have how3 := own_keeps o3 hKv3 (fun _ _ h => h)
       have hWv3 := hW3.keeps hKv3 (fun h => h))
    | (at_builtin
       refine wpList_append_rd _ rfl (.tmp 20) (.tmp 22) _ rfl w.heap.size 5 i0 _ 1 1 Try.underlying26 hi0 hz0 hz1 hz2 rfl Nat.one_pos A3 c3 ((Lib.uvarint p0).length + (Lib.uvarint p1).length + (Lib.uvarint p2).length) (Lib.byteCells (Lib.uvarint p0 ++ Lib.uvarint p1 ++ Lib.uvarint p2)) rfl how3 B3 (Lib.uvarint p3).length d3 (Lib.byteCells (Lib.uvarint p3)) rfl (Rd.own hv3) (byteCells_one _) (by first | (simp only [maxLen]; omega) | (simp only [maxLen, List.length_append]; omega)) (by first | omega | (simp only [List.length_append]; omega)) hKw3.size ?_
       intro A4 c4 w4 o4 hg4 hat4
       have K4 := hKw3.grown hg4 (fun k hk => .inr (how3.lt k (by rw [ownBlock_slice]; exact hk)).1)
       have hW4 := hWv3.grown hg4 (by
         have h := own_far how3 hWv3 (by decide)
         rw [ownBlock_slice] at h
         exact Ne.symm h)
       rw [← Lib.byteCells_append] at o4
       have q4 : w4.cell? ⟨w.heap.size, 4, none⟩ = some (.int .u64 p4) := hW4.cell 4))
  rw [rounds_succ]
  go_wp2_with (first
    | (go_at_call 41
       refine (prVar _ p4 H4.out).mono ?_
       rintro e v4 ⟨B4, d4, rfl, hv4, hKv4, hBv4⟩
       have hKw4 := K4.trans hKv4 (fun _ _ h => h)
       have how4 := own_keeps o4 hKv4 (fun _ _ h => h)
       have hWv4 := hW4.keeps hKv4 (fun h => h))
    | (at_builtin
       refine wpList_append_rd _ rfl (.tmp 20) (.tmp 22) _ rfl w.heap.size 5 i0 _ 1 1 Try.underlying26 hi0 hz0 hz1 hz2 rfl Nat.one_pos A4 c4 ((Lib.uvarint p0).length + (Lib.uvarint p1).length + (Lib.uvarint p2).length + (Lib.uvarint p3).length) (Lib.byteCells (Lib.uvarint p0 ++ Lib.uvarint p1 ++ Lib.uvarint p2 ++ Lib.uvarint p3)) rfl how4 B4 (Lib.uvarint p4).length d4 (Lib.byteCells (Lib.uvarint p4)) rfl (Rd.own hv4) (byteCells_one _) (by first | (simp only [maxLen]; omega) | (simp only [maxLen, List.length_append]; omega)) (by first | omega | (simp only [List.length_append]; omega)) hKw4.size ?_
       intro A5 c5 w5 o5 hg5 hat5
       have K5 := hKw4.grown hg5 (fun k hk => .inr (how4.lt k (by rw [ownBlock_slice]; exact hk)).1)
       have hW5 := hWv4.grown hg5 (by
         have h := own_far how4 hWv4 (by decide)
         rw [ownBlock_slice] at h
         exact Ne.symm h)
       rw [← Lib.byteCells_append] at o5
       have q5 : w5.cell? ⟨w.heap.size, 5, none⟩ = some (.int .u64 p5) := hW5.cell 5))
  rw [rounds_succ]
  go_wp2_with (first
    | (go_at_call 41
       refine (prVar _ p5 H5.out).mono ?_
       rintro e v5 ⟨B5, d5, rfl, hv5, hKv5, hBv5⟩
       have hKw5 := K5.trans hKv5 (fun _ _ h => h)
       have how5 := own_keeps o5 hKv5 (fun _ _ h => h)
       have hWv5 := hW5.keeps hKv5 (fun h => h))
    | (at_builtin
       refine wpList_append_rd _ rfl (.tmp 20) (.tmp 22) _ rfl w.heap.size 5 i0 _ 1 1 Try.underlying26 hi0 hz0 hz1 hz2 rfl Nat.one_pos A5 c5 ((Lib.uvarint p0).length + (Lib.uvarint p1).length + (Lib.uvarint p2).length + (Lib.uvarint p3).length + (Lib.uvarint p4).length) (Lib.byteCells (Lib.uvarint p0 ++ Lib.uvarint p1 ++ Lib.uvarint p2 ++ Lib.uvarint p3 ++ Lib.uvarint p4)) rfl how5 B5 (Lib.uvarint p5).length d5 (Lib.byteCells (Lib.uvarint p5)) rfl (Rd.own hv5) (byteCells_one _) (by first | (simp only [maxLen]; omega) | (simp only [maxLen, List.length_append]; omega)) (by first | omega | (simp only [List.length_append]; omega)) hKw5.size ?_
       intro A6 c6 w6 o6 hg6 hat6
       have K6 := hKw5.grown hg6 (fun k hk => .inr (how5.lt k (by rw [ownBlock_slice]; exact hk)).1)
       have hW6 := hWv5.grown hg6 (by
         have h := own_far how5 hWv5 (by decide)
         rw [ownBlock_slice] at h
         exact Ne.symm h)
       rw [← Lib.byteCells_append] at o6))
  rw [rounds_succ]
  go_wp2_with fail
  go_ret
  have e : Lib.uvarint p0 ++ (Lib.uvarint p1 ++ (Lib.uvarint p2 ++ (Lib.uvarint p3 ++ (Lib.uvarint p4 ++ (Lib.uvarint p5))))) = Lib.uvarint p0 ++ Lib.uvarint p1 ++ Lib.uvarint p2 ++ Lib.uvarint p3 ++ Lib.uvarint p4 ++ Lib.uvarint p5 := by simp
  have e2 : (Lib.uvarint p0 ++ (Lib.uvarint p1 ++ (Lib.uvarint p2 ++ (Lib.uvarint p3 ++ (Lib.uvarint p4 ++ (Lib.uvarint p5)))))).length = (Lib.uvarint p0).length + (Lib.uvarint p1).length + (Lib.uvarint p2).length + (Lib.uvarint p3).length + (Lib.uvarint p4).length + (Lib.uvarint p5).length := by rw [e]; simp only [List.length_append]
  rw [e2, e]
  exact ⟨A6, c6, rfl, o6, K6, fun k hk => (o6.lt k (by rw [ownBlock_slice]; exact hk)).1⟩
end Go.Proofs.Ytlemmkcofmofiaa
