/- The walk of the law on progress. -/
import Derived.Test.YtlemmkcofmofiaaPgGet
import Derived.Test.YtlemmkcofmofiaaClone
import Derived.Test.YtlemmkcofmofiaaEq
import Derived.Test.YtlemmkcofmofiaaCut
import Derived.Test.YtlemmkcofmofiaaVer
import Derived.Deep.RegionHeld3
import Derived.ChangeKeysEq
namespace Go.Proofs.Ytlemmkcofmofiaa
open Go.RowKit
set_option linter.unusedVariables false
theorem infoU64 : (Try.prog.info? 22).map (fun i => (i.zero, i.size, i.bytes)) = some (some (.int .u64 0), 1, 8) := by kernel_rfl
theorem cellsU64 : Try.prog.cellsOf 22 = 1 := by kernel_rfl
set_option maxHeartbeats 400000 in
theorem pgEq (w : World) (a0 a1 a2 a3 a4 a5 : Int) : (Op.equalIn 10000 24 (.agg #[.int .u64 a0, .int .u64 a1, .int .u64 a2, .int .u64 a3, .int .u64 a4, .int .u64 a5]) (.agg #[.int .u64 a0, .int .u64 a1, .int .u64 a2, .int .u64 a3, .int .u64 a4, .int .u64 a5])).run Try.prog w = .ok true w := by
  obtain ⟨i0, hi0, hz0, hz1, hz2⟩ := info_parts infoU64
  rw [run_equalIn_array w 9999 _ _ Try.underlying24 hi0, cellsU64]
  have e : ∀ (b : Int) (w : World), (Op.equalIn 9999 22 (.int .u64 b) (.int .u64 b)).run Try.prog w = .ok true w := fun b w => by
    rw [run_equalIn_int w 9998 22 .u64 .u64 b b Try.underlying22]; simp
  simp [Op.eqItems, show List.range 6 = [0, 1, 2, 3, 4, 5] from rfl, go_sem]

theorem cell_held {w w' : World} {p : Addr} {v : Value} (hK : Keeps (fun _ => False) w w') (h : w.cell? p = some v) : w'.cell? p = some v := by
  have hlt : p.block < w.heap.size := by
    rcases Nat.lt_or_ge p.block w.heap.size with h' | h'
    · exact h'
    · simp [World.cell?, Array.getElem?_eq_none h'] at h
  exact (hK.cell hlt (fun h => h)).trans h

set_option maxRecDepth 100000 in
set_option maxHeartbeats 1000000 in
theorem pgKnown3 (w : World) (v : Int) (hv : v < 54420) (p0 p1 p2 p3 p4 p5 : Nat) :
    Calls Try.prog 15 #[.agg #[.int .u64 p0, .int .u64 p1, .int .u64 p2, .int .u64 p3, .int .u64 p4, .int .u64 p5], .int .i64 v] w fun e w' => e = .returned (.agg #[.int .u64 p0, .int .u64 p1, .int .u64 p2, .int .u64 0, .int .u64 0, .int .u64 0]) ∧ Keeps (fun _ => False) w w' := by
  have i1 : v < (54420 : Int) := by omega
  have i2 : v < (54460 : Int) := by omega
  clear hv
  have hZ : Whole ((w.alloc (.cells #[.int .u64 p0, .int .u64 p1, .int .u64 p2, .int .u64 0, .int .u64 0, .int .u64 0] 24)).alloc (.cells #[.int .u64 p0, .int .u64 p1, .int .u64 p2, .int .u64 0, .int .u64 0, .int .u64 0] 24)) (w.heap.size + 1) 24 #[.int .u64 p0, .int .u64 p1, .int .u64 p2, .int .u64 0, .int .u64 0, .int .u64 0] := by have h := Whole.new (w.alloc (.cells #[.int .u64 p0, .int .u64 p1, .int .u64 p2, .int .u64 0, .int .u64 0, .int .u64 0] 24)) 24 #[.int .u64 p0, .int .u64 p1, .int .u64 p2, .int .u64 0, .int .u64 0, .int .u64 0]; rw [World.size_alloc] at h; exact h
  have k0 := ((Keeps.refl (fun _ => False) w).alloc (.cells #[.int .u64 p0, .int .u64 p1, .int .u64 p2, .int .u64 0, .int .u64 0, .int .u64 0] 24)).alloc (.cells #[.int .u64 p0, .int .u64 p1, .int .u64 p2, .int .u64 0, .int .u64 0, .int .u64 0] 24)
  have hld := run_loadVar_row (P := Try.prog) _ (w.heap.size + 1) 24 24 _ (0, 0) _ hZ Try.underlying24 rfl infoPg
  have HLD := Lib.hid hld
  clear hld hZ
  go_enter Try.func15, Try.ntmps15
  go_wp2_with fail
  exact bodyPost_ret (results_cell1 rfl _ ⟨w.heap.size + 1, 0, none⟩ _ _ rfl HLD.out) rfl ⟨rfl, k0⟩

set_option maxRecDepth 100000 in
set_option maxHeartbeats 1000000 in
theorem pgKnown5 (w : World) (v : Int) (hv : 54420 ≤ v) (hv2 : v < 54460) (p0 p1 p2 p3 p4 p5 : Nat) :
    Calls Try.prog 15 #[.agg #[.int .u64 p0, .int .u64 p1, .int .u64 p2, .int .u64 p3, .int .u64 p4, .int .u64 p5], .int .i64 v] w fun e w' => e = .returned (.agg #[.int .u64 p0, .int .u64 p1, .int .u64 p2, .int .u64 p3, .int .u64 p4, .int .u64 0]) ∧ Keeps (fun _ => False) w w' := by
  have i1 : ¬ v < (54420 : Int) := by omega
  have i2 : v < (54460 : Int) := by omega
  clear hv hv2
  have hZ : Whole ((w.alloc (.cells #[.int .u64 p0, .int .u64 p1, .int .u64 p2, .int .u64 p3, .int .u64 p4, .int .u64 0] 24)).alloc (.cells #[.int .u64 p0, .int .u64 p1, .int .u64 p2, .int .u64 p3, .int .u64 p4, .int .u64 0] 24)) (w.heap.size + 1) 24 #[.int .u64 p0, .int .u64 p1, .int .u64 p2, .int .u64 p3, .int .u64 p4, .int .u64 0] := by have h := Whole.new (w.alloc (.cells #[.int .u64 p0, .int .u64 p1, .int .u64 p2, .int .u64 p3, .int .u64 p4, .int .u64 0] 24)) 24 #[.int .u64 p0, .int .u64 p1, .int .u64 p2, .int .u64 p3, .int .u64 p4, .int .u64 0]; rw [World.size_alloc] at h; exact h
  have k0 := ((Keeps.refl (fun _ => False) w).alloc (.cells #[.int .u64 p0, .int .u64 p1, .int .u64 p2, .int .u64 p3, .int .u64 p4, .int .u64 0] 24)).alloc (.cells #[.int .u64 p0, .int .u64 p1, .int .u64 p2, .int .u64 p3, .int .u64 p4, .int .u64 0] 24)
  have hld := run_loadVar_row (P := Try.prog) _ (w.heap.size + 1) 24 24 _ (0, 0) _ hZ Try.underlying24 rfl infoPg
  have HLD := Lib.hid hld
  clear hld hZ
  go_enter Try.func15, Try.ntmps15
  go_wp2_with fail
  exact bodyPost_ret (results_cell1 rfl _ ⟨w.heap.size + 1, 0, none⟩ _ _ rfl HLD.out) rfl ⟨rfl, k0⟩

set_option maxRecDepth 100000 in
set_option maxHeartbeats 1000000 in
theorem pgKnown6 (w : World) (v : Int) (hv : 54460 ≤ v) (p0 p1 p2 p3 p4 p5 : Nat) :
    Calls Try.prog 15 #[.agg #[.int .u64 p0, .int .u64 p1, .int .u64 p2, .int .u64 p3, .int .u64 p4, .int .u64 p5], .int .i64 v] w fun e w' => e = .returned (.agg #[.int .u64 p0, .int .u64 p1, .int .u64 p2, .int .u64 p3, .int .u64 p4, .int .u64 p5]) ∧ Keeps (fun _ => False) w w' := by
  have i1 : ¬ v < (54420 : Int) := by omega
  have i2 : ¬ v < (54460 : Int) := by omega
  clear hv
  have hZ : Whole ((w.alloc (.cells #[.int .u64 p0, .int .u64 p1, .int .u64 p2, .int .u64 p3, .int .u64 p4, .int .u64 p5] 24)).alloc (.cells #[.int .u64 p0, .int .u64 p1, .int .u64 p2, .int .u64 p3, .int .u64 p4, .int .u64 p5] 24)) (w.heap.size + 1) 24 #[.int .u64 p0, .int .u64 p1, .int .u64 p2, .int .u64 p3, .int .u64 p4, .int .u64 p5] := by have h := Whole.new (w.alloc (.cells #[.int .u64 p0, .int .u64 p1, .int .u64 p2, .int .u64 p3, .int .u64 p4, .int .u64 p5] 24)) 24 #[.int .u64 p0, .int .u64 p1, .int .u64 p2, .int .u64 p3, .int .u64 p4, .int .u64 p5]; rw [World.size_alloc] at h; exact h
  have k0 := ((Keeps.refl (fun _ => False) w).alloc (.cells #[.int .u64 p0, .int .u64 p1, .int .u64 p2, .int .u64 p3, .int .u64 p4, .int .u64 p5] 24)).alloc (.cells #[.int .u64 p0, .int .u64 p1, .int .u64 p2, .int .u64 p3, .int .u64 p4, .int .u64 p5] 24)
  have hld := run_loadVar_row (P := Try.prog) _ (w.heap.size + 1) 24 24 _ (0, 0) _ hZ Try.underlying24 rfl infoPg
  have HLD := Lib.hid hld
  clear hld hZ
  go_enter Try.func15, Try.ntmps15
  go_wp2_with fail
  exact bodyPost_ret (results_cell1 rfl _ ⟨w.heap.size + 1, 0, none⟩ _ _ rfl HLD.out) rfl ⟨rfl, k0⟩

theorem keep12_3 {W w7 : World} {a b p0 p1 p2 p3 p4 p5 : Nat} (hK : Keeps (fun _ => False) W w7) (h : W.cell? ⟨a, 0, none⟩ = some (.int .u64 p0) ∧ W.cell? ⟨a, 1, none⟩ = some (.int .u64 p1) ∧ W.cell? ⟨a, 2, none⟩ = some (.int .u64 p2) ∧ W.cell? ⟨a, 3, none⟩ = some (.int .u64 p3) ∧ W.cell? ⟨a, 4, none⟩ = some (.int .u64 p4) ∧ W.cell? ⟨a, 5, none⟩ = some (.int .u64 p5) ∧ W.cell? ⟨b, 0, none⟩ = some (.int .u64 p0) ∧ W.cell? ⟨b, 1, none⟩ = some (.int .u64 p1) ∧ W.cell? ⟨b, 2, none⟩ = some (.int .u64 p2) ∧ W.cell? ⟨b, 3, none⟩ = some (.int .u64 0) ∧ W.cell? ⟨b, 4, none⟩ = some (.int .u64 0) ∧ W.cell? ⟨b, 5, none⟩ = some (.int .u64 0)) : w7.cell? ⟨a, 0, none⟩ = some (.int .u64 p0) ∧ w7.cell? ⟨a, 1, none⟩ = some (.int .u64 p1) ∧ w7.cell? ⟨a, 2, none⟩ = some (.int .u64 p2) ∧ w7.cell? ⟨a, 3, none⟩ = some (.int .u64 p3) ∧ w7.cell? ⟨a, 4, none⟩ = some (.int .u64 p4) ∧ w7.cell? ⟨a, 5, none⟩ = some (.int .u64 p5) ∧ w7.cell? ⟨b, 0, none⟩ = some (.int .u64 p0) ∧ w7.cell? ⟨b, 1, none⟩ = some (.int .u64 p1) ∧ w7.cell? ⟨b, 2, none⟩ = some (.int .u64 p2) ∧ w7.cell? ⟨b, 3, none⟩ = some (.int .u64 0) ∧ w7.cell? ⟨b, 4, none⟩ = some (.int .u64 0) ∧ w7.cell? ⟨b, 5, none⟩ = some (.int .u64 0) := by
  obtain ⟨h0, h1, h2, h3, h4, h5, g0, g1, g2, g3, g4, g5⟩ := h
  exact ⟨cell_held hK h0, cell_held hK h1, cell_held hK h2, cell_held hK h3, cell_held hK h4, cell_held hK h5, cell_held hK g0, cell_held hK g1, cell_held hK g2, cell_held hK g3, cell_held hK g4, cell_held hK g5⟩

set_option maxRecDepth 100000 in
set_option maxHeartbeats 4000000 in
theorem pkprogress3 (w : World) (v : Int) (hv : v < 54420) (ver m nb cb : Nat) (hver : (50000 : Int) + (ver : Int) % 4501 = v) (hver2 : ver < 65536) (hm : m < 65536) (p0 p1 p2 p3 p4 p5 : Nat) (h0 : p0 < 18446744073709551616) (h1 : p1 < 18446744073709551616) (h2 : p2 < 18446744073709551616) (h3 : p3 < 18446744073709551616) (h4 : p4 < 18446744073709551616) (h5 : p5 < 18446744073709551616) (AB : Option Addr) (lb : List UInt8) (hlb : lb.length = nb) (hRB : Rd w 1 AB nb (Lib.byteCells lb)) (hn9 : nb ≤ 9) :
    Calls Try.prog 3 #[.agg #[.int .u64 p0, .int .u64 p1, .int .u64 p2, .int .u64 p3, .int .u64 p4, .int .u64 p5], .int .u16 ver, .slice AB nb cb, .int .u16 m] w fun e w' => e = .returned (.bool true) ∧ Below w.heap.size w w' := by
  obtain ⟨i0, hi0, hz0, hz1, hz2⟩ := info_parts infoU8
  have HPUT := Lib.hid (fun w => pgPut3 w v hv p0 p1 p2 p3 p4 p5 h0 h1 h2 h3 h4 h5)
  have HSPEC := Lib.hid (fun w => pgSpec3 w v hv p0 p1 p2 p3 p4 p5 h0 h1 h2 h3 h4 h5)
  have HKNOWN := Lib.hid (fun w => pgKnown3 w v hv p0 p1 p2 p3 p4 p5)
  have HOK := Lib.hid (fun w A c => pgGet3_ok w A c v hv p0 p1 p2 p3 p4 p5 h0 h1 h2 h3 h4 h5 lb _ rfl)
  have HERR := Lib.hid (fun w A c m hm => pgGet3_err w A c v hv p0 p1 p2 p3 p4 p5 h0 h1 h2 h3 h4 h5 _ m hm rfl)
  have hdl : (Lib.uvarint p0 ++ (Lib.uvarint p1 ++ (Lib.uvarint p2))).length ≤ 60 := by
    have := Lib.uvarint_length64 h0; have := Lib.uvarint_length64 h1; have := Lib.uvarint_length64 h2; have := Lib.uvarint_length64 h3; have := Lib.uvarint_length64 h4; have := Lib.uvarint_length64 h5
    simp only [List.length_append]; omega
  have hdp : 0 < (Lib.uvarint p0 ++ (Lib.uvarint p1 ++ (Lib.uvarint p2))).length := by have := Lib.uvarint_pos p0; simp only [List.length_append]; omega
  generalize Lib.uvarint p0 ++ (Lib.uvarint p1 ++ (Lib.uvarint p2)) = d at HPUT HSPEC HOK HERR hdl hdp
  generalize hdn : d.length = dn at *
  have hq : m % dn < dn := Nat.mod_lt _ hdp
  have hlt1 : (d.take (m % dn)).length = m % dn := by rw [List.length_take]; omega
  have hlt2 : (d ++ lb).length = dn + nb := by rw [List.length_append]; omega
  have HT1 := Lib.hid hlt1
  have HT2 := Lib.hid hlt2
  have HDN := Lib.hid hdn
  have HLB := Lib.hid hlb
  have HQ := Lib.hid hq
  have hv3 : (0 : Int) ≤ (ver : Int) := by omega
  have hn1 : ¬ (2147483647 : Int) < (nb : Int) := by omega
  have hn2 : ¬ (9 : Int) < (nb : Int) := by omega
  have HM := Lib.hid hm
  have HVER := Lib.hid (fun w => pkVersion w ver v hver2 hver)
  clear hv h0 h1 h2 h3 h4 h5 hlt1 hlt2 hdn hlb hq hver hver2 hm
  have hB0 : Whole (w.alloc (.cells #[.int .u64 p0, .int .u64 p1, .int .u64 p2, .int .u64 p3, .int .u64 p4, .int .u64 p5] 24)) w.heap.size 24 #[.int .u64 p0, .int .u64 p1, .int .u64 p2, .int .u64 p3, .int .u64 p4, .int .u64 p5] := Whole.new w _ _
  have k0 := (Keeps.refl (fun _ => False) w).alloc (.cells #[.int .u64 p0, .int .u64 p1, .int .u64 p2, .int .u64 p3, .int .u64 p4, .int .u64 p5] 24)
  have hRB0 := hRB.alloc (.cells #[.int .u64 p0, .int .u64 p1, .int .u64 p2, .int .u64 p3, .int .u64 p4, .int .u64 p5] 24)
  go_enter Try.func3, Try.ntmps3
  go_wp2_with (go_at_call 8; refine (HVER.out _).mono ?_; rintro e wv ⟨rfl, rfl⟩)
  refine (HPUT.out _).mono ?_
  rintro e w1 ⟨A1, c1, rfl, hown1, hK1, hA1⟩
  have hK01 := k0.trans hK1 (fun _ _ h => h)
  have hB1 := hB0.keeps hK1 (fun h => h)
  have b0 : w1.cell? ⟨w.heap.size, 0, none⟩ = some (.int .u64 p0) := hB1.cell 0
  have b1 : w1.cell? ⟨w.heap.size, 1, none⟩ = some (.int .u64 p1) := hB1.cell 1
  have b2 : w1.cell? ⟨w.heap.size, 2, none⟩ = some (.int .u64 p2) := hB1.cell 2
  have b3 : w1.cell? ⟨w.heap.size, 3, none⟩ = some (.int .u64 p3) := hB1.cell 3
  have b4 : w1.cell? ⟨w.heap.size, 4, none⟩ = some (.int .u64 p4) := hB1.cell 4
  have b5 : w1.cell? ⟨w.heap.size, 5, none⟩ = some (.int .u64 p5) := hB1.cell 5
  have bl1 := hB1.lt
  go_wp2_with fail
  refine (HSPEC.out w1).mono ?_
  rintro e w2 ⟨A2, c2, rfl, hown2, hK2, hA2⟩
  go_wp2_with fail
  have hown12 := own_keeps hown1 hK2 (fun _ _ h => h)
  refine (bytesEq w2 A1 A2 dn c1 dn c2 d d (Rd.own hown12) (Rd.own hown2)).mono ?_
  rintro e w3 ⟨he, rfl⟩
  rw [decide_eq_true rfl] at he
  subst he
  go_wp2_with fail
  have hcl := cloneB w2 A1 c1 d (by rw [HDN.out]; exact Rd.own hown12) (by rw [HDN.out]; omega)
  rw [HDN.out] at hcl
  refine hcl.mono ?_
  clear hcl
  rintro e w3 ⟨A3, c3, rfl, hown3, hK3, hA3⟩
  have hK03 := (hK01.trans hK2 (fun _ _ h => h)).trans hK3 (fun _ _ h => h)
  have hRB3 := hRB.keeps hK03 (fun _ _ h => h)
  go_wp2_with (first
    | (at_builtin
       refine wpList_append_rd _ rfl (.tmp 36) (.tmp 37) _ rfl w2.heap.size 5 i0 _ 1 1 Try.underlying26 hi0 hz0 hz1 hz2 rfl Nat.one_pos A3 c3 dn _ rfl hown3 AB nb cb (Lib.byteCells lb) rfl hRB3 (byteCells_one _) (by simp only [maxLen]; omega) (by omega) hK3.size ?_
       intro A4 c4 w4 hown4 hg4 hat4
       have hK04 := hK03.grown hg4 (fun k hk => .inr (by have := hA3 k hk; have := hK01.size; have := hK2.size; omega))
       have hK14 := (hK2.trans hK3 (fun _ _ h => h)).grown hg4 (fun k hk => .inr (by have := hA3 k hk; have := hK2.size; omega))
       have hget := HOK.out w4 A4 c4
       rw [← Lib.byteCells_append] at hown4
       rw [HT2.out, HLB.out] at hget)
    | (go_at_call 12; refine (hget (Rd.own hown4) (own_cap hown4) (fun i hi => (hown4.lt i (by rw [ownBlock_slice]; exact hi)).2)).mono ?_; clear hget))
  rintro e w5 ⟨rfl, hK5⟩
  have hK05 := hK04.trans hK5 (fun _ _ h => h)
  have kW5 := hK05.alloc (.cells #[.int .u64 p0, .int .u64 p1, .int .u64 p2, .int .u64 0, .int .u64 0, .int .u64 0] 24)
  have hK15 := (hK14.trans hK5 (fun _ _ h => h)).alloc (.cells #[.int .u64 p0, .int .u64 p1, .int .u64 p2, .int .u64 0, .int .u64 0, .int .u64 0] 24)
  have hown15 := own_keeps hown1 hK15 (fun _ _ h => h)
  have hG5 := Whole.new w5 24 #[.int .u64 p0, .int .u64 p1, .int .u64 p2, .int .u64 0, .int .u64 0, .int .u64 0]
  go_wp2_with fail
  refine (pkCut _ A1 c1 dn m hdp (own_cap hown1) HM.out).mono ?_
  rintro e w6 ⟨rfl, rfl⟩
  have herr := HERR.out (w5.alloc (.cells #[.int .u64 p0, .int .u64 p1, .int .u64 p2, .int .u64 0, .int .u64 0, .int .u64 0] 24)) A1 c1 (m % dn) HQ.out
  rw [HT1.out] at herr
  go_wp2_with fail
  refine (herr (by rw [← byteCells_take]; exact (Rd.own hown15).first (Nat.le_of_lt HQ.out)) (Nat.le_trans (Nat.le_of_lt HQ.out) (own_cap hown1)) (fun i hi => (hown15.lt i (by rw [ownBlock_slice]; exact hi)).2)).mono ?_
  clear herr
  rintro e w6 ⟨rfl, hK6⟩
  have kW6 := (kW5.trans hK6 (fun _ _ h => h)).alloc (.cells #[.int .u64 0, .int .u64 0, .int .u64 0, .int .u64 0, .int .u64 0, .int .u64 0] 24)
  have hBw := (((hB1.keeps hK15 (fun h => h)).keeps hK6 (fun h => h)).alloc (.cells #[.int .u64 0, .int .u64 0, .int .u64 0, .int .u64 0, .int .u64 0, .int .u64 0] 24))
  have hGw := ((hG5.keeps hK6 (fun h => h)).alloc (.cells #[.int .u64 0, .int .u64 0, .int .u64 0, .int .u64 0, .int .u64 0, .int .u64 0] 24))
  have x0 := hBw.lt
  have x1 := hGw.lt
  clear b0 b1 b2 b3 b4 b5 hown1 hown15 hown2 hown12 hown3 hown4 hRB hRB0 hRB3
  have hs0 : (fun w' => w'.cell? ⟨w.heap.size, 0, none⟩ = some (.int .u64 p0) ∧ w'.cell? ⟨w.heap.size, 1, none⟩ = some (.int .u64 p1) ∧ w'.cell? ⟨w.heap.size, 2, none⟩ = some (.int .u64 p2) ∧ w'.cell? ⟨w.heap.size, 3, none⟩ = some (.int .u64 p3) ∧ w'.cell? ⟨w.heap.size, 4, none⟩ = some (.int .u64 p4) ∧ w'.cell? ⟨w.heap.size, 5, none⟩ = some (.int .u64 p5) ∧ w'.cell? ⟨w5.heap.size, 0, none⟩ = some (.int .u64 p0) ∧ w'.cell? ⟨w5.heap.size, 1, none⟩ = some (.int .u64 p1) ∧ w'.cell? ⟨w5.heap.size, 2, none⟩ = some (.int .u64 p2) ∧ w'.cell? ⟨w5.heap.size, 3, none⟩ = some (.int .u64 0) ∧ w'.cell? ⟨w5.heap.size, 4, none⟩ = some (.int .u64 0) ∧ w'.cell? ⟨w5.heap.size, 5, none⟩ = some (.int .u64 0)) (w6.alloc (.cells #[.int .u64 0, .int .u64 0, .int .u64 0, .int .u64 0, .int .u64 0, .int .u64 0] 24)) := ⟨hBw.cell 0, hBw.cell 1, hBw.cell 2, hBw.cell 3, hBw.cell 4, hBw.cell 5, hGw.cell 0, hGw.cell 1, hGw.cell 2, hGw.cell 3, hGw.cell 4, hGw.cell 5⟩
  go_wp2_with fail
  have hpe : ∀ w, (Op.equalIn 10000 24 (.agg #[.int .u64 p0, .int .u64 p1, .int .u64 p2, .int .u64 0, .int .u64 0, .int .u64 0]) (.agg #[.int .u64 p0, .int .u64 p1, .int .u64 p2, .int .u64 0, .int .u64 0, .int .u64 0])).run Try.prog w = .ok true w := fun w => pgEq w p0 p1 p2 0 0 0
  go_region_held3 (fun w' => w'.cell? ⟨w.heap.size, 0, none⟩ = some (.int .u64 p0) ∧ w'.cell? ⟨w.heap.size, 1, none⟩ = some (.int .u64 p1) ∧ w'.cell? ⟨w.heap.size, 2, none⟩ = some (.int .u64 p2) ∧ w'.cell? ⟨w.heap.size, 3, none⟩ = some (.int .u64 p3) ∧ w'.cell? ⟨w.heap.size, 4, none⟩ = some (.int .u64 p4) ∧ w'.cell? ⟨w.heap.size, 5, none⟩ = some (.int .u64 p5) ∧ w'.cell? ⟨w5.heap.size, 0, none⟩ = some (.int .u64 p0) ∧ w'.cell? ⟨w5.heap.size, 1, none⟩ = some (.int .u64 p1) ∧ w'.cell? ⟨w5.heap.size, 2, none⟩ = some (.int .u64 p2) ∧ w'.cell? ⟨w5.heap.size, 3, none⟩ = some (.int .u64 0) ∧ w'.cell? ⟨w5.heap.size, 4, none⟩ = some (.int .u64 0) ∧ w'.cell? ⟨w5.heap.size, 5, none⟩ = some (.int .u64 0)) (first | exact hs0 | exact hs7 | go_keep) (first | (go_at_call 15; refine (HKNOWN.out _).mono ?_; rintro e w7 ⟨rfl, hK7⟩; have hs7 := keep12_3 hK7 (by assumption)))
  go_wp2_with fail
  go_ret
  exact ⟨rfl, (kW6.drew.trans hK7 (fun _ _ h => h)).below (Nat.le_refl _) (fun _ h => h.elim)⟩

theorem keep12_5 {W w7 : World} {a b p0 p1 p2 p3 p4 p5 : Nat} (hK : Keeps (fun _ => False) W w7) (h : W.cell? ⟨a, 0, none⟩ = some (.int .u64 p0) ∧ W.cell? ⟨a, 1, none⟩ = some (.int .u64 p1) ∧ W.cell? ⟨a, 2, none⟩ = some (.int .u64 p2) ∧ W.cell? ⟨a, 3, none⟩ = some (.int .u64 p3) ∧ W.cell? ⟨a, 4, none⟩ = some (.int .u64 p4) ∧ W.cell? ⟨a, 5, none⟩ = some (.int .u64 p5) ∧ W.cell? ⟨b, 0, none⟩ = some (.int .u64 p0) ∧ W.cell? ⟨b, 1, none⟩ = some (.int .u64 p1) ∧ W.cell? ⟨b, 2, none⟩ = some (.int .u64 p2) ∧ W.cell? ⟨b, 3, none⟩ = some (.int .u64 p3) ∧ W.cell? ⟨b, 4, none⟩ = some (.int .u64 p4) ∧ W.cell? ⟨b, 5, none⟩ = some (.int .u64 0)) : w7.cell? ⟨a, 0, none⟩ = some (.int .u64 p0) ∧ w7.cell? ⟨a, 1, none⟩ = some (.int .u64 p1) ∧ w7.cell? ⟨a, 2, none⟩ = some (.int .u64 p2) ∧ w7.cell? ⟨a, 3, none⟩ = some (.int .u64 p3) ∧ w7.cell? ⟨a, 4, none⟩ = some (.int .u64 p4) ∧ w7.cell? ⟨a, 5, none⟩ = some (.int .u64 p5) ∧ w7.cell? ⟨b, 0, none⟩ = some (.int .u64 p0) ∧ w7.cell? ⟨b, 1, none⟩ = some (.int .u64 p1) ∧ w7.cell? ⟨b, 2, none⟩ = some (.int .u64 p2) ∧ w7.cell? ⟨b, 3, none⟩ = some (.int .u64 p3) ∧ w7.cell? ⟨b, 4, none⟩ = some (.int .u64 p4) ∧ w7.cell? ⟨b, 5, none⟩ = some (.int .u64 0) := by
  obtain ⟨h0, h1, h2, h3, h4, h5, g0, g1, g2, g3, g4, g5⟩ := h
  exact ⟨cell_held hK h0, cell_held hK h1, cell_held hK h2, cell_held hK h3, cell_held hK h4, cell_held hK h5, cell_held hK g0, cell_held hK g1, cell_held hK g2, cell_held hK g3, cell_held hK g4, cell_held hK g5⟩

set_option maxRecDepth 100000 in
set_option maxHeartbeats 4000000 in
theorem pkprogress5 (w : World) (v : Int) (hv : 54420 ≤ v) (hv2 : v < 54460) (ver m nb cb : Nat) (hver : (50000 : Int) + (ver : Int) % 4501 = v) (hver2 : ver < 65536) (hm : m < 65536) (p0 p1 p2 p3 p4 p5 : Nat) (h0 : p0 < 18446744073709551616) (h1 : p1 < 18446744073709551616) (h2 : p2 < 18446744073709551616) (h3 : p3 < 18446744073709551616) (h4 : p4 < 18446744073709551616) (h5 : p5 < 18446744073709551616) (AB : Option Addr) (lb : List UInt8) (hlb : lb.length = nb) (hRB : Rd w 1 AB nb (Lib.byteCells lb)) (hn9 : nb ≤ 9) :
    Calls Try.prog 3 #[.agg #[.int .u64 p0, .int .u64 p1, .int .u64 p2, .int .u64 p3, .int .u64 p4, .int .u64 p5], .int .u16 ver, .slice AB nb cb, .int .u16 m] w fun e w' => e = .returned (.bool true) ∧ Below w.heap.size w w' := by
  obtain ⟨i0, hi0, hz0, hz1, hz2⟩ := info_parts infoU8
  have HPUT := Lib.hid (fun w => pgPut5 w v hv hv2 p0 p1 p2 p3 p4 p5 h0 h1 h2 h3 h4 h5)
  have HSPEC := Lib.hid (fun w => pgSpec5 w v hv hv2 p0 p1 p2 p3 p4 p5 h0 h1 h2 h3 h4 h5)
  have HKNOWN := Lib.hid (fun w => pgKnown5 w v hv hv2 p0 p1 p2 p3 p4 p5)
  have HOK := Lib.hid (fun w A c => pgGet5_ok w A c v hv hv2 p0 p1 p2 p3 p4 p5 h0 h1 h2 h3 h4 h5 lb _ rfl)
  have HERR := Lib.hid (fun w A c m hm => pgGet5_err w A c v hv hv2 p0 p1 p2 p3 p4 p5 h0 h1 h2 h3 h4 h5 _ m hm rfl)
  have hdl : (Lib.uvarint p0 ++ (Lib.uvarint p1 ++ (Lib.uvarint p2 ++ (Lib.uvarint p3 ++ (Lib.uvarint p4))))).length ≤ 60 := by
    have := Lib.uvarint_length64 h0; have := Lib.uvarint_length64 h1; have := Lib.uvarint_length64 h2; have := Lib.uvarint_length64 h3; have := Lib.uvarint_length64 h4; have := Lib.uvarint_length64 h5
    simp only [List.length_append]; omega
  have hdp : 0 < (Lib.uvarint p0 ++ (Lib.uvarint p1 ++ (Lib.uvarint p2 ++ (Lib.uvarint p3 ++ (Lib.uvarint p4))))).length := by have := Lib.uvarint_pos p0; simp only [List.length_append]; omega
  generalize Lib.uvarint p0 ++ (Lib.uvarint p1 ++ (Lib.uvarint p2 ++ (Lib.uvarint p3 ++ (Lib.uvarint p4)))) = d at HPUT HSPEC HOK HERR hdl hdp
  generalize hdn : d.length = dn at *
  have hq : m % dn < dn := Nat.mod_lt _ hdp
  have hlt1 : (d.take (m % dn)).length = m % dn := by rw [List.length_take]; omega
  have hlt2 : (d ++ lb).length = dn + nb := by rw [List.length_append]; omega
  have HT1 := Lib.hid hlt1
  have HT2 := Lib.hid hlt2
  have HDN := Lib.hid hdn
  have HLB := Lib.hid hlb
  have HQ := Lib.hid hq
  have hv3 : (0 : Int) ≤ (ver : Int) := by omega
  have hn1 : ¬ (2147483647 : Int) < (nb : Int) := by omega
  have hn2 : ¬ (9 : Int) < (nb : Int) := by omega
  have HM := Lib.hid hm
  have HVER := Lib.hid (fun w => pkVersion w ver v hver2 hver)
  clear hv hv2 h0 h1 h2 h3 h4 h5 hlt1 hlt2 hdn hlb hq hver hver2 hm
  have hB0 : Whole (w.alloc (.cells #[.int .u64 p0, .int .u64 p1, .int .u64 p2, .int .u64 p3, .int .u64 p4, .int .u64 p5] 24)) w.heap.size 24 #[.int .u64 p0, .int .u64 p1, .int .u64 p2, .int .u64 p3, .int .u64 p4, .int .u64 p5] := Whole.new w _ _
  have k0 := (Keeps.refl (fun _ => False) w).alloc (.cells #[.int .u64 p0, .int .u64 p1, .int .u64 p2, .int .u64 p3, .int .u64 p4, .int .u64 p5] 24)
  have hRB0 := hRB.alloc (.cells #[.int .u64 p0, .int .u64 p1, .int .u64 p2, .int .u64 p3, .int .u64 p4, .int .u64 p5] 24)
  go_enter Try.func3, Try.ntmps3
  go_wp2_with (go_at_call 8; refine (HVER.out _).mono ?_; rintro e wv ⟨rfl, rfl⟩)
  refine (HPUT.out _).mono ?_
  rintro e w1 ⟨A1, c1, rfl, hown1, hK1, hA1⟩
  have hK01 := k0.trans hK1 (fun _ _ h => h)
  have hB1 := hB0.keeps hK1 (fun h => h)
  have b0 : w1.cell? ⟨w.heap.size, 0, none⟩ = some (.int .u64 p0) := hB1.cell 0
  have b1 : w1.cell? ⟨w.heap.size, 1, none⟩ = some (.int .u64 p1) := hB1.cell 1
  have b2 : w1.cell? ⟨w.heap.size, 2, none⟩ = some (.int .u64 p2) := hB1.cell 2
  have b3 : w1.cell? ⟨w.heap.size, 3, none⟩ = some (.int .u64 p3) := hB1.cell 3
  have b4 : w1.cell? ⟨w.heap.size, 4, none⟩ = some (.int .u64 p4) := hB1.cell 4
  have b5 : w1.cell? ⟨w.heap.size, 5, none⟩ = some (.int .u64 p5) := hB1.cell 5
  have bl1 := hB1.lt
  go_wp2_with fail
  refine (HSPEC.out w1).mono ?_
  rintro e w2 ⟨A2, c2, rfl, hown2, hK2, hA2⟩
  go_wp2_with fail
  have hown12 := own_keeps hown1 hK2 (fun _ _ h => h)
  refine (bytesEq w2 A1 A2 dn c1 dn c2 d d (Rd.own hown12) (Rd.own hown2)).mono ?_
  rintro e w3 ⟨he, rfl⟩
  rw [decide_eq_true rfl] at he
  subst he
  go_wp2_with fail
  have hcl := cloneB w2 A1 c1 d (by rw [HDN.out]; exact Rd.own hown12) (by rw [HDN.out]; omega)
  rw [HDN.out] at hcl
  refine hcl.mono ?_
  clear hcl
  rintro e w3 ⟨A3, c3, rfl, hown3, hK3, hA3⟩
  have hK03 := (hK01.trans hK2 (fun _ _ h => h)).trans hK3 (fun _ _ h => h)
  have hRB3 := hRB.keeps hK03 (fun _ _ h => h)
  go_wp2_with (first
    | (at_builtin
       refine wpList_append_rd _ rfl (.tmp 36) (.tmp 37) _ rfl w2.heap.size 5 i0 _ 1 1 Try.underlying26 hi0 hz0 hz1 hz2 rfl Nat.one_pos A3 c3 dn _ rfl hown3 AB nb cb (Lib.byteCells lb) rfl hRB3 (byteCells_one _) (by simp only [maxLen]; omega) (by omega) hK3.size ?_
       intro A4 c4 w4 hown4 hg4 hat4
       have hK04 := hK03.grown hg4 (fun k hk => .inr (by have := hA3 k hk; have := hK01.size; have := hK2.size; omega))
       have hK14 := (hK2.trans hK3 (fun _ _ h => h)).grown hg4 (fun k hk => .inr (by have := hA3 k hk; have := hK2.size; omega))
       have hget := HOK.out w4 A4 c4
       rw [← Lib.byteCells_append] at hown4
       rw [HT2.out, HLB.out] at hget)
    | (go_at_call 12; refine (hget (Rd.own hown4) (own_cap hown4) (fun i hi => (hown4.lt i (by rw [ownBlock_slice]; exact hi)).2)).mono ?_; clear hget))
  rintro e w5 ⟨rfl, hK5⟩
  have hK05 := hK04.trans hK5 (fun _ _ h => h)
  have kW5 := hK05.alloc (.cells #[.int .u64 p0, .int .u64 p1, .int .u64 p2, .int .u64 p3, .int .u64 p4, .int .u64 0] 24)
  have hK15 := (hK14.trans hK5 (fun _ _ h => h)).alloc (.cells #[.int .u64 p0, .int .u64 p1, .int .u64 p2, .int .u64 p3, .int .u64 p4, .int .u64 0] 24)
  have hown15 := own_keeps hown1 hK15 (fun _ _ h => h)
  have hG5 := Whole.new w5 24 #[.int .u64 p0, .int .u64 p1, .int .u64 p2, .int .u64 p3, .int .u64 p4, .int .u64 0]
  go_wp2_with fail
  refine (pkCut _ A1 c1 dn m hdp (own_cap hown1) HM.out).mono ?_
  rintro e w6 ⟨rfl, rfl⟩
  have herr := HERR.out (w5.alloc (.cells #[.int .u64 p0, .int .u64 p1, .int .u64 p2, .int .u64 p3, .int .u64 p4, .int .u64 0] 24)) A1 c1 (m % dn) HQ.out
  rw [HT1.out] at herr
  go_wp2_with fail
  refine (herr (by rw [← byteCells_take]; exact (Rd.own hown15).first (Nat.le_of_lt HQ.out)) (Nat.le_trans (Nat.le_of_lt HQ.out) (own_cap hown1)) (fun i hi => (hown15.lt i (by rw [ownBlock_slice]; exact hi)).2)).mono ?_
  clear herr
  rintro e w6 ⟨rfl, hK6⟩
  have kW6 := (kW5.trans hK6 (fun _ _ h => h)).alloc (.cells #[.int .u64 0, .int .u64 0, .int .u64 0, .int .u64 0, .int .u64 0, .int .u64 0] 24)
  have hBw := (((hB1.keeps hK15 (fun h => h)).keeps hK6 (fun h => h)).alloc (.cells #[.int .u64 0, .int .u64 0, .int .u64 0, .int .u64 0, .int .u64 0, .int .u64 0] 24))
  have hGw := ((hG5.keeps hK6 (fun h => h)).alloc (.cells #[.int .u64 0, .int .u64 0, .int .u64 0, .int .u64 0, .int .u64 0, .int .u64 0] 24))
  have x0 := hBw.lt
  have x1 := hGw.lt
  clear b0 b1 b2 b3 b4 b5 hown1 hown15 hown2 hown12 hown3 hown4 hRB hRB0 hRB3
  have hs0 : (fun w' => w'.cell? ⟨w.heap.size, 0, none⟩ = some (.int .u64 p0) ∧ w'.cell? ⟨w.heap.size, 1, none⟩ = some (.int .u64 p1) ∧ w'.cell? ⟨w.heap.size, 2, none⟩ = some (.int .u64 p2) ∧ w'.cell? ⟨w.heap.size, 3, none⟩ = some (.int .u64 p3) ∧ w'.cell? ⟨w.heap.size, 4, none⟩ = some (.int .u64 p4) ∧ w'.cell? ⟨w.heap.size, 5, none⟩ = some (.int .u64 p5) ∧ w'.cell? ⟨w5.heap.size, 0, none⟩ = some (.int .u64 p0) ∧ w'.cell? ⟨w5.heap.size, 1, none⟩ = some (.int .u64 p1) ∧ w'.cell? ⟨w5.heap.size, 2, none⟩ = some (.int .u64 p2) ∧ w'.cell? ⟨w5.heap.size, 3, none⟩ = some (.int .u64 p3) ∧ w'.cell? ⟨w5.heap.size, 4, none⟩ = some (.int .u64 p4) ∧ w'.cell? ⟨w5.heap.size, 5, none⟩ = some (.int .u64 0)) (w6.alloc (.cells #[.int .u64 0, .int .u64 0, .int .u64 0, .int .u64 0, .int .u64 0, .int .u64 0] 24)) := ⟨hBw.cell 0, hBw.cell 1, hBw.cell 2, hBw.cell 3, hBw.cell 4, hBw.cell 5, hGw.cell 0, hGw.cell 1, hGw.cell 2, hGw.cell 3, hGw.cell 4, hGw.cell 5⟩
  go_wp2_with fail
  have hpe : ∀ w, (Op.equalIn 10000 24 (.agg #[.int .u64 p0, .int .u64 p1, .int .u64 p2, .int .u64 p3, .int .u64 p4, .int .u64 0]) (.agg #[.int .u64 p0, .int .u64 p1, .int .u64 p2, .int .u64 p3, .int .u64 p4, .int .u64 0])).run Try.prog w = .ok true w := fun w => pgEq w p0 p1 p2 p3 p4 0
  go_region_held3 (fun w' => w'.cell? ⟨w.heap.size, 0, none⟩ = some (.int .u64 p0) ∧ w'.cell? ⟨w.heap.size, 1, none⟩ = some (.int .u64 p1) ∧ w'.cell? ⟨w.heap.size, 2, none⟩ = some (.int .u64 p2) ∧ w'.cell? ⟨w.heap.size, 3, none⟩ = some (.int .u64 p3) ∧ w'.cell? ⟨w.heap.size, 4, none⟩ = some (.int .u64 p4) ∧ w'.cell? ⟨w.heap.size, 5, none⟩ = some (.int .u64 p5) ∧ w'.cell? ⟨w5.heap.size, 0, none⟩ = some (.int .u64 p0) ∧ w'.cell? ⟨w5.heap.size, 1, none⟩ = some (.int .u64 p1) ∧ w'.cell? ⟨w5.heap.size, 2, none⟩ = some (.int .u64 p2) ∧ w'.cell? ⟨w5.heap.size, 3, none⟩ = some (.int .u64 p3) ∧ w'.cell? ⟨w5.heap.size, 4, none⟩ = some (.int .u64 p4) ∧ w'.cell? ⟨w5.heap.size, 5, none⟩ = some (.int .u64 0)) (first | exact hs0 | exact hs7 | go_keep) (first | (go_at_call 15; refine (HKNOWN.out _).mono ?_; rintro e w7 ⟨rfl, hK7⟩; have hs7 := keep12_5 hK7 (by assumption)))
  go_wp2_with fail
  go_ret
  exact ⟨rfl, (kW6.drew.trans hK7 (fun _ _ h => h)).below (Nat.le_refl _) (fun _ h => h.elim)⟩

theorem keep12_6 {W w7 : World} {a b p0 p1 p2 p3 p4 p5 : Nat} (hK : Keeps (fun _ => False) W w7) (h : W.cell? ⟨a, 0, none⟩ = some (.int .u64 p0) ∧ W.cell? ⟨a, 1, none⟩ = some (.int .u64 p1) ∧ W.cell? ⟨a, 2, none⟩ = some (.int .u64 p2) ∧ W.cell? ⟨a, 3, none⟩ = some (.int .u64 p3) ∧ W.cell? ⟨a, 4, none⟩ = some (.int .u64 p4) ∧ W.cell? ⟨a, 5, none⟩ = some (.int .u64 p5) ∧ W.cell? ⟨b, 0, none⟩ = some (.int .u64 p0) ∧ W.cell? ⟨b, 1, none⟩ = some (.int .u64 p1) ∧ W.cell? ⟨b, 2, none⟩ = some (.int .u64 p2) ∧ W.cell? ⟨b, 3, none⟩ = some (.int .u64 p3) ∧ W.cell? ⟨b, 4, none⟩ = some (.int .u64 p4) ∧ W.cell? ⟨b, 5, none⟩ = some (.int .u64 p5)) : w7.cell? ⟨a, 0, none⟩ = some (.int .u64 p0) ∧ w7.cell? ⟨a, 1, none⟩ = some (.int .u64 p1) ∧ w7.cell? ⟨a, 2, none⟩ = some (.int .u64 p2) ∧ w7.cell? ⟨a, 3, none⟩ = some (.int .u64 p3) ∧ w7.cell? ⟨a, 4, none⟩ = some (.int .u64 p4) ∧ w7.cell? ⟨a, 5, none⟩ = some (.int .u64 p5) ∧ w7.cell? ⟨b, 0, none⟩ = some (.int .u64 p0) ∧ w7.cell? ⟨b, 1, none⟩ = some (.int .u64 p1) ∧ w7.cell? ⟨b, 2, none⟩ = some (.int .u64 p2) ∧ w7.cell? ⟨b, 3, none⟩ = some (.int .u64 p3) ∧ w7.cell? ⟨b, 4, none⟩ = some (.int .u64 p4) ∧ w7.cell? ⟨b, 5, none⟩ = some (.int .u64 p5) := by
  obtain ⟨h0, h1, h2, h3, h4, h5, g0, g1, g2, g3, g4, g5⟩ := h
  exact ⟨cell_held hK h0, cell_held hK h1, cell_held hK h2, cell_held hK h3, cell_held hK h4, cell_held hK h5, cell_held hK g0, cell_held hK g1, cell_held hK g2, cell_held hK g3, cell_held hK g4, cell_held hK g5⟩

set_option maxRecDepth 100000 in
set_option maxHeartbeats 4000000 in
theorem pkprogress6 (w : World) (v : Int) (hv : 54460 ≤ v) (ver m nb cb : Nat) (hver : (50000 : Int) + (ver : Int) % 4501 = v) (hver2 : ver < 65536) (hm : m < 65536) (p0 p1 p2 p3 p4 p5 : Nat) (h0 : p0 < 18446744073709551616) (h1 : p1 < 18446744073709551616) (h2 : p2 < 18446744073709551616) (h3 : p3 < 18446744073709551616) (h4 : p4 < 18446744073709551616) (h5 : p5 < 18446744073709551616) (AB : Option Addr) (lb : List UInt8) (hlb : lb.length = nb) (hRB : Rd w 1 AB nb (Lib.byteCells lb)) (hn9 : nb ≤ 9) :
    Calls Try.prog 3 #[.agg #[.int .u64 p0, .int .u64 p1, .int .u64 p2, .int .u64 p3, .int .u64 p4, .int .u64 p5], .int .u16 ver, .slice AB nb cb, .int .u16 m] w fun e w' => e = .returned (.bool true) ∧ Below w.heap.size w w' := by
  obtain ⟨i0, hi0, hz0, hz1, hz2⟩ := info_parts infoU8
  have HPUT := Lib.hid (fun w => pgPut6 w v hv p0 p1 p2 p3 p4 p5 h0 h1 h2 h3 h4 h5)
  have HSPEC := Lib.hid (fun w => pgSpec6 w v hv p0 p1 p2 p3 p4 p5 h0 h1 h2 h3 h4 h5)
  have HKNOWN := Lib.hid (fun w => pgKnown6 w v hv p0 p1 p2 p3 p4 p5)
  have HOK := Lib.hid (fun w A c => pgGet6_ok w A c v hv p0 p1 p2 p3 p4 p5 h0 h1 h2 h3 h4 h5 lb _ rfl)
  have HERR := Lib.hid (fun w A c m hm => pgGet6_err w A c v hv p0 p1 p2 p3 p4 p5 h0 h1 h2 h3 h4 h5 _ m hm rfl)
  have hdl : (Lib.uvarint p0 ++ (Lib.uvarint p1 ++ (Lib.uvarint p2 ++ (Lib.uvarint p3 ++ (Lib.uvarint p4 ++ (Lib.uvarint p5)))))).length ≤ 60 := by
    have := Lib.uvarint_length64 h0; have := Lib.uvarint_length64 h1; have := Lib.uvarint_length64 h2; have := Lib.uvarint_length64 h3; have := Lib.uvarint_length64 h4; have := Lib.uvarint_length64 h5
    simp only [List.length_append]; omega
  have hdp : 0 < (Lib.uvarint p0 ++ (Lib.uvarint p1 ++ (Lib.uvarint p2 ++ (Lib.uvarint p3 ++ (Lib.uvarint p4 ++ (Lib.uvarint p5)))))).length := by have := Lib.uvarint_pos p0; simp only [List.length_append]; omega
  generalize Lib.uvarint p0 ++ (Lib.uvarint p1 ++ (Lib.uvarint p2 ++ (Lib.uvarint p3 ++ (Lib.uvarint p4 ++ (Lib.uvarint p5))))) = d at HPUT HSPEC HOK HERR hdl hdp
  generalize hdn : d.length = dn at *
  have hq : m % dn < dn := Nat.mod_lt _ hdp
  have hlt1 : (d.take (m % dn)).length = m % dn := by rw [List.length_take]; omega
  have hlt2 : (d ++ lb).length = dn + nb := by rw [List.length_append]; omega
  have HT1 := Lib.hid hlt1
  have HT2 := Lib.hid hlt2
  have HDN := Lib.hid hdn
  have HLB := Lib.hid hlb
  have HQ := Lib.hid hq
  have hv3 : (0 : Int) ≤ (ver : Int) := by omega
  have hn1 : ¬ (2147483647 : Int) < (nb : Int) := by omega
  have hn2 : ¬ (9 : Int) < (nb : Int) := by omega
  have HM := Lib.hid hm
  have HVER := Lib.hid (fun w => pkVersion w ver v hver2 hver)
  clear hv h0 h1 h2 h3 h4 h5 hlt1 hlt2 hdn hlb hq hver hver2 hm
  have hB0 : Whole (w.alloc (.cells #[.int .u64 p0, .int .u64 p1, .int .u64 p2, .int .u64 p3, .int .u64 p4, .int .u64 p5] 24)) w.heap.size 24 #[.int .u64 p0, .int .u64 p1, .int .u64 p2, .int .u64 p3, .int .u64 p4, .int .u64 p5] := Whole.new w _ _
  have k0 := (Keeps.refl (fun _ => False) w).alloc (.cells #[.int .u64 p0, .int .u64 p1, .int .u64 p2, .int .u64 p3, .int .u64 p4, .int .u64 p5] 24)
  have hRB0 := hRB.alloc (.cells #[.int .u64 p0, .int .u64 p1, .int .u64 p2, .int .u64 p3, .int .u64 p4, .int .u64 p5] 24)
  go_enter Try.func3, Try.ntmps3
  go_wp2_with (go_at_call 8; refine (HVER.out _).mono ?_; rintro e wv ⟨rfl, rfl⟩)
  refine (HPUT.out _).mono ?_
  rintro e w1 ⟨A1, c1, rfl, hown1, hK1, hA1⟩
  have hK01 := k0.trans hK1 (fun _ _ h => h)
  have hB1 := hB0.keeps hK1 (fun h => h)
  have b0 : w1.cell? ⟨w.heap.size, 0, none⟩ = some (.int .u64 p0) := hB1.cell 0
  have b1 : w1.cell? ⟨w.heap.size, 1, none⟩ = some (.int .u64 p1) := hB1.cell 1
  have b2 : w1.cell? ⟨w.heap.size, 2, none⟩ = some (.int .u64 p2) := hB1.cell 2
  have b3 : w1.cell? ⟨w.heap.size, 3, none⟩ = some (.int .u64 p3) := hB1.cell 3
  have b4 : w1.cell? ⟨w.heap.size, 4, none⟩ = some (.int .u64 p4) := hB1.cell 4
  have b5 : w1.cell? ⟨w.heap.size, 5, none⟩ = some (.int .u64 p5) := hB1.cell 5
  have bl1 := hB1.lt
  go_wp2_with fail
  refine (HSPEC.out w1).mono ?_
  rintro e w2 ⟨A2, c2, rfl, hown2, hK2, hA2⟩
  go_wp2_with fail
  have hown12 := own_keeps hown1 hK2 (fun _ _ h => h)
  refine (bytesEq w2 A1 A2 dn c1 dn c2 d d (Rd.own hown12) (Rd.own hown2)).mono ?_
  rintro e w3 ⟨he, rfl⟩
  rw [decide_eq_true rfl] at he
  subst he
  go_wp2_with fail
  have hcl := cloneB w2 A1 c1 d (by rw [HDN.out]; exact Rd.own hown12) (by rw [HDN.out]; omega)
  rw [HDN.out] at hcl
  refine hcl.mono ?_
  clear hcl
  rintro e w3 ⟨A3, c3, rfl, hown3, hK3, hA3⟩
  have hK03 := (hK01.trans hK2 (fun _ _ h => h)).trans hK3 (fun _ _ h => h)
  have hRB3 := hRB.keeps hK03 (fun _ _ h => h)
  go_wp2_with (first
    | (at_builtin
       refine wpList_append_rd _ rfl (.tmp 36) (.tmp 37) _ rfl w2.heap.size 5 i0 _ 1 1 Try.underlying26 hi0 hz0 hz1 hz2 rfl Nat.one_pos A3 c3 dn _ rfl hown3 AB nb cb (Lib.byteCells lb) rfl hRB3 (byteCells_one _) (by simp only [maxLen]; omega) (by omega) hK3.size ?_
       intro A4 c4 w4 hown4 hg4 hat4
       have hK04 := hK03.grown hg4 (fun k hk => .inr (by have := hA3 k hk; have := hK01.size; have := hK2.size; omega))
       have hK14 := (hK2.trans hK3 (fun _ _ h => h)).grown hg4 (fun k hk => .inr (by have := hA3 k hk; have := hK2.size; omega))
       have hget := HOK.out w4 A4 c4
       rw [← Lib.byteCells_append] at hown4
       rw [HT2.out, HLB.out] at hget)
    | (go_at_call 12; refine (hget (Rd.own hown4) (own_cap hown4) (fun i hi => (hown4.lt i (by rw [ownBlock_slice]; exact hi)).2)).mono ?_; clear hget))
  rintro e w5 ⟨rfl, hK5⟩
  have hK05 := hK04.trans hK5 (fun _ _ h => h)
  have kW5 := hK05.alloc (.cells #[.int .u64 p0, .int .u64 p1, .int .u64 p2, .int .u64 p3, .int .u64 p4, .int .u64 p5] 24)
  have hK15 := (hK14.trans hK5 (fun _ _ h => h)).alloc (.cells #[.int .u64 p0, .int .u64 p1, .int .u64 p2, .int .u64 p3, .int .u64 p4, .int .u64 p5] 24)
  have hown15 := own_keeps hown1 hK15 (fun _ _ h => h)
  have hG5 := Whole.new w5 24 #[.int .u64 p0, .int .u64 p1, .int .u64 p2, .int .u64 p3, .int .u64 p4, .int .u64 p5]
  go_wp2_with fail
  refine (pkCut _ A1 c1 dn m hdp (own_cap hown1) HM.out).mono ?_
  rintro e w6 ⟨rfl, rfl⟩
  have herr := HERR.out (w5.alloc (.cells #[.int .u64 p0, .int .u64 p1, .int .u64 p2, .int .u64 p3, .int .u64 p4, .int .u64 p5] 24)) A1 c1 (m % dn) HQ.out
  rw [HT1.out] at herr
  go_wp2_with fail
  refine (herr (by rw [← byteCells_take]; exact (Rd.own hown15).first (Nat.le_of_lt HQ.out)) (Nat.le_trans (Nat.le_of_lt HQ.out) (own_cap hown1)) (fun i hi => (hown15.lt i (by rw [ownBlock_slice]; exact hi)).2)).mono ?_
  clear herr
  rintro e w6 ⟨rfl, hK6⟩
  have kW6 := (kW5.trans hK6 (fun _ _ h => h)).alloc (.cells #[.int .u64 0, .int .u64 0, .int .u64 0, .int .u64 0, .int .u64 0, .int .u64 0] 24)
  have hBw := (((hB1.keeps hK15 (fun h => h)).keeps hK6 (fun h => h)).alloc (.cells #[.int .u64 0, .int .u64 0, .int .u64 0, .int .u64 0, .int .u64 0, .int .u64 0] 24))
  have hGw := ((hG5.keeps hK6 (fun h => h)).alloc (.cells #[.int .u64 0, .int .u64 0, .int .u64 0, .int .u64 0, .int .u64 0, .int .u64 0] 24))
  have x0 := hBw.lt
  have x1 := hGw.lt
  clear b0 b1 b2 b3 b4 b5 hown1 hown15 hown2 hown12 hown3 hown4 hRB hRB0 hRB3
  have hs0 : (fun w' => w'.cell? ⟨w.heap.size, 0, none⟩ = some (.int .u64 p0) ∧ w'.cell? ⟨w.heap.size, 1, none⟩ = some (.int .u64 p1) ∧ w'.cell? ⟨w.heap.size, 2, none⟩ = some (.int .u64 p2) ∧ w'.cell? ⟨w.heap.size, 3, none⟩ = some (.int .u64 p3) ∧ w'.cell? ⟨w.heap.size, 4, none⟩ = some (.int .u64 p4) ∧ w'.cell? ⟨w.heap.size, 5, none⟩ = some (.int .u64 p5) ∧ w'.cell? ⟨w5.heap.size, 0, none⟩ = some (.int .u64 p0) ∧ w'.cell? ⟨w5.heap.size, 1, none⟩ = some (.int .u64 p1) ∧ w'.cell? ⟨w5.heap.size, 2, none⟩ = some (.int .u64 p2) ∧ w'.cell? ⟨w5.heap.size, 3, none⟩ = some (.int .u64 p3) ∧ w'.cell? ⟨w5.heap.size, 4, none⟩ = some (.int .u64 p4) ∧ w'.cell? ⟨w5.heap.size, 5, none⟩ = some (.int .u64 p5)) (w6.alloc (.cells #[.int .u64 0, .int .u64 0, .int .u64 0, .int .u64 0, .int .u64 0, .int .u64 0] 24)) := ⟨hBw.cell 0, hBw.cell 1, hBw.cell 2, hBw.cell 3, hBw.cell 4, hBw.cell 5, hGw.cell 0, hGw.cell 1, hGw.cell 2, hGw.cell 3, hGw.cell 4, hGw.cell 5⟩
  go_wp2_with fail
  have hpe : ∀ w, (Op.equalIn 10000 24 (.agg #[.int .u64 p0, .int .u64 p1, .int .u64 p2, .int .u64 p3, .int .u64 p4, .int .u64 p5]) (.agg #[.int .u64 p0, .int .u64 p1, .int .u64 p2, .int .u64 p3, .int .u64 p4, .int .u64 p5])).run Try.prog w = .ok true w := fun w => pgEq w p0 p1 p2 p3 p4 p5
  go_region_held3 (fun w' => w'.cell? ⟨w.heap.size, 0, none⟩ = some (.int .u64 p0) ∧ w'.cell? ⟨w.heap.size, 1, none⟩ = some (.int .u64 p1) ∧ w'.cell? ⟨w.heap.size, 2, none⟩ = some (.int .u64 p2) ∧ w'.cell? ⟨w.heap.size, 3, none⟩ = some (.int .u64 p3) ∧ w'.cell? ⟨w.heap.size, 4, none⟩ = some (.int .u64 p4) ∧ w'.cell? ⟨w.heap.size, 5, none⟩ = some (.int .u64 p5) ∧ w'.cell? ⟨w5.heap.size, 0, none⟩ = some (.int .u64 p0) ∧ w'.cell? ⟨w5.heap.size, 1, none⟩ = some (.int .u64 p1) ∧ w'.cell? ⟨w5.heap.size, 2, none⟩ = some (.int .u64 p2) ∧ w'.cell? ⟨w5.heap.size, 3, none⟩ = some (.int .u64 p3) ∧ w'.cell? ⟨w5.heap.size, 4, none⟩ = some (.int .u64 p4) ∧ w'.cell? ⟨w5.heap.size, 5, none⟩ = some (.int .u64 p5)) (first | exact hs0 | exact hs7 | go_keep) (first | (go_at_call 15; refine (HKNOWN.out _).mono ?_; rintro e w7 ⟨rfl, hK7⟩; have hs7 := keep12_6 hK7 (by assumption)))
  go_wp2_with fail
  go_ret
  exact ⟨rfl, (kW6.drew.trans hK7 (fun _ _ h => h)).below (Nat.le_refl _) (fun _ h => h.elim)⟩

set_option maxRecDepth 100000 in
set_option maxHeartbeats 1000000 in
theorem pkprogress_big (w : World) (ver m nb cb : Nat) (p0 p1 p2 p3 p4 p5 : Nat) (AB : Option Addr) (hver2 : ver < 65536) (hn9 : ¬ nb ≤ 9) :
    Calls Try.prog 3 #[.agg #[.int .u64 p0, .int .u64 p1, .int .u64 p2, .int .u64 p3, .int .u64 p4, .int .u64 p5], .int .u16 ver, .slice AB nb cb, .int .u16 m] w fun e w' => e = .returned (.bool true) ∧ Below w.heap.size w w' := by
  have HVER := Lib.hid (fun w => pkVersion w ver _ hver2 rfl)
  have hn2 : (9 : Int) < (nb : Int) := by omega
  have k0 := (Below.refl w.heap.size w).alloc (Nat.le_refl _) (.cells #[.int .u64 p0, .int .u64 p1, .int .u64 p2, .int .u64 p3, .int .u64 p4, .int .u64 p5] 24)
  by_cases h : 2147483647 < nb
  · have hn1 : (2147483647 : Int) < (nb : Int) := by omega
    clear hver2 hn9 h
    go_enter Try.func3, Try.ntmps3
    go_wp2_with fail
    go_ret
    exact ⟨rfl, k0⟩
  · have hn1 : ¬ (2147483647 : Int) < (nb : Int) := by omega
    clear hver2 hn9 h
    go_enter Try.func3, Try.ntmps3
    go_wp2_with (go_at_call 8; refine (HVER.out _).mono ?_; rintro e wv ⟨rfl, rfl⟩)
    go_ret
    exact ⟨rfl, k0⟩

theorem pkprogress (w : World) (ver m nb cb : Nat) (hver2 : ver < 65536) (hm : m < 65536) (p0 p1 p2 p3 p4 p5 : Nat) (h0 : p0 < 18446744073709551616) (h1 : p1 < 18446744073709551616) (h2 : p2 < 18446744073709551616) (h3 : p3 < 18446744073709551616) (h4 : p4 < 18446744073709551616) (h5 : p5 < 18446744073709551616) (AB : Option Addr) (lb : List UInt8) (hlb : lb.length = nb) (hRB : Rd w 1 AB nb (Lib.byteCells lb)) :
    Calls Try.prog 3 #[.agg #[.int .u64 p0, .int .u64 p1, .int .u64 p2, .int .u64 p3, .int .u64 p4, .int .u64 p5], .int .u16 ver, .slice AB nb cb, .int .u16 m] w fun e w' => e = .returned (.bool true) ∧ Below w.heap.size w w' := by
  by_cases hn9 : nb ≤ 9
  · by_cases hvv : (50000 : Int) + (ver : Int) % 4501 < 54420
    · exact pkprogress3 w _ hvv ver m nb cb rfl hver2 hm p0 p1 p2 p3 p4 p5 h0 h1 h2 h3 h4 h5 AB lb hlb hRB hn9
    · by_cases h2' : (50000 : Int) + (ver : Int) % 4501 < 54460
      · exact pkprogress5 w _ (by omega) h2' ver m nb cb rfl hver2 hm p0 p1 p2 p3 p4 p5 h0 h1 h2 h3 h4 h5 AB lb hlb hRB hn9
      · exact pkprogress6 w _ (by omega) ver m nb cb rfl hver2 hm p0 p1 p2 p3 p4 p5 h0 h1 h2 h3 h4 h5 AB lb hlb hRB hn9
  · exact pkprogress_big w ver m nb cb p0 p1 p2 p3 p4 p5 AB hver2 hn9
end Go.Proofs.Ytlemmkcofmofiaa
