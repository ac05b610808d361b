/- Columns by a kind's number: their rows are the words cut. Conditions: at most 30 rows. -/
import Derived.Test.YtmdmccjmmljbkaaGreatHk
import Derived.Deep.RegionLaw
namespace Go.Proofs.YtmdmccjmmljbkaaGreat
open Go.RowKit Go.Lib
set_option linter.unusedVariables false
theorem hInfoR : (Tryz.prog.info? 44).map (fun i => (i.zero, i.size, i.bytes)) = some (some (.slice none 0 0), 1, 24) := by kernel_rfl
theorem rdOneH (w : World) (t : TypeId) (v : Value) : Rd (w.alloc (.cells #[v] t)) 1 (some ⟨w.heap.size, 0, none⟩) 1 [v] := rdW rfl
theorem oneValH (v : Value) (h : v.oneCell' = true) : ∀ u ∈ [v], u.oneCell' = true := fun u hu => by rw [List.mem_singleton.1 hu]; exact h
/-- The rows that VS names lie from lo on. -/
def FromLo (VS : List Value) (lo : Nat) : Prop := ∀ v ∈ VS, ∀ (B : Option Addr) (n d : Nat), v = .slice B n d → ∀ q, ob B = some q → lo ≤ q
theorem RB.keepsS {w w' : World} {A : Option Addr} {VS : List Value} {R : List (List Value)} {S : Nat → Prop} {lo : Nat} (h : RB w A VS R) (hl : FromLo VS lo) (hk : Keeps S w w') (hS : ∀ i, S i → i < lo) : RB w' A VS R := ⟨h.1, fun i xs hx => by
  obtain ⟨B, d, h1, h2, h3⟩ := h.2 i xs hx
  exact ⟨B, d, h1, h2.keeps hk (fun k hk2 hk3 => by have := hl _ (List.mem_of_getElem? h1) B _ _ rfl k hk2; have := hS k hk3; omega), fun q hq => ⟨Nat.lt_of_lt_of_le (h3 q hq).1 hk.size, (h3 q hq).2⟩⟩⟩
theorem FromLo.snoc {VS : List Value} {lo : Nat} {B : Option Addr} {n d : Nat} (h : FromLo VS lo) (hB : ∀ q, ob B = some q → lo ≤ q) : FromLo (VS ++ [.slice B n d]) lo := fun v hv => by
  rcases List.mem_append.1 hv with hv | hv
  · exact h v hv
  · rw [List.mem_singleton.1 hv]
    intro B' n' d' e q hq
    injection e with e1 e2 e3
    subst e1
    exact hB q hq
theorem infoTCol : (Tryz.prog.info? 29).map (·.size) = some 4 := by kernel_rfl
theorem tcut9_len (q : W4) : (qw (tcut9 q)).length = 1 := rfl
set_option maxRecDepth 100000 in
set_option maxHeartbeats 2000000 in
theorem tcCol9 (w : World) (U : Option Addr) (m k0 : Nat) (rs : List W4) (hU : RowsW w U m rs) (hm : m ≤ 30) : Calls Tryz.prog 5 #[.int .u8 8, .int .u8 0, .int .u8 0, .slice U m k0] w fun e w' => ∃ RA cm, e = .returned (.agg #[.int .i64 9, .int .i64 (-1), .int .u8 0, .slice RA m cm]) ∧ RowsV w' RA ((rs.map tcut9).map qw) ∧ Keeps (fun _ => False) w w' := by
  obtain ⟨i0, hi0, hz0, hz1, hz2⟩ := info_parts hInfoR
  have HU := Lib.hid hU
  have HC := Lib.hid (fun w q => tcCut9 w q)
  have HZ := Lib.hid ((Whole.new w 29 #[.int .i64 0, .int .i64 0, .int .u8 0, .slice none 0 0]).alloc (.cells #[.int .i64 9, .int .i64 (-1), .int .u8 0, .slice none 0 0] 29))
  have hB0 := Whole.new (w.alloc (.cells #[.int .i64 0, .int .i64 0, .int .u8 0, .slice none 0 0] 29)) 29 #[.int .i64 9, .int .i64 (-1), .int .u8 0, .slice none 0 0]
  rw [World.size_alloc] at hB0
  have HB := Lib.hid hB0
  have HK0 := Lib.hid (((Keeps.refl (fun _ => False) w).alloc (.cells #[.int .i64 0, .int .i64 0, .int .u8 0, .slice none 0 0] 29)).alloc (.cells #[.int .i64 9, .int .i64 (-1), .int .u8 0, .slice none 0 0] 29))
  clear hU hB0
  go_enter Tryz.func5, Tryz.ntmps5
  go_wp2_with fail
  go_loopw [10] (fun i wr => ∃ (k : Nat) (RA : Option Addr) (cm : Nat) (VS : List Value), k ≤ m ∧ i = .int .i64 k ∧ Hid (Whole wr (w.heap.size + 1) 29 #[.int .i64 9, .int .i64 (-1), .int .u8 0, .slice RA k cm]) ∧ Hid (wr.ownsRow w.heap.size 44 1 (.slice RA k cm) k VS) ∧ Hid (RB wr RA VS (((rs.take k).map tcut9).map qw)) ∧ Hid (FromLo VS (w.heap.size + 2)) ∧ Hid (Whole wr w.heap.size 29 #[.int .i64 0, .int .i64 0, .int .u8 0, .slice none 0 0]) ∧ Hid (Keeps (fun _ => False) w wr)) (fun i _ => m - (RowKit.intOf i).toNat)
  case atStart => exact ⟨0, none, 0, [], Nat.zero_le _, rfl, HB, Lib.hid (World.ownsRow_nil _ _ _ _), Lib.hid (RB.nil _ _), Lib.hid (fun v h => by cases h), HZ, HK0⟩
  case round =>
    obtain ⟨k, RA, cm, VS, hk, rfl, HBR, HO, HRB, HFL, HZR, HK⟩ := hrel
    have c3 : wr.cell? ⟨w.heap.size + 1, 3, none⟩ = some (.slice RA k cm) := HBR.out.cell 3
    by_cases hlt : k < m
    · obtain ⟨q, hq⟩ : ∃ q, rs[k]? = some q := ⟨_, List.getElem?_eq_getElem (by rw [HU.out.1]; exact hlt)⟩
      obtain ⟨ad, rfl, hb, hcell⟩ := (HU.out.keeps HK.out).at' hq
      have x0 : wr.cell? (ad.add (k * 4)) = some (.int .u64 (q.1 : Int)) := hcell 0 _ rfl
      have x1 : wr.cell? ⟨(ad.add (k * 4)).block, (ad.add (k * 4)).off + 1, none⟩ = some (.int .u64 (q.2.1 : Int)) := hcell 1 _ rfl
      have x2 : wr.cell? ⟨(ad.add (k * 4)).block, (ad.add (k * 4)).off + 2, none⟩ = some (.int .u64 (q.2.2.1 : Int)) := hcell 2 _ rfl
      have x3 : wr.cell? ⟨(ad.add (k * 4)).block, (ad.add (k * 4)).off + 3, none⟩ = some (.int .u64 (q.2.2.2 : Int)) := hcell 3 _ rfl
      have y0 : wr.drew.cell? (ad.add (k * 4)) = some (.int .u64 (q.1 : Int)) := by simpa using x0
      have y1 : wr.drew.cell? ⟨(ad.add (k * 4)).block, (ad.add (k * 4)).off + 1, none⟩ = some (.int .u64 (q.2.1 : Int)) := by simpa using x1
      have y2 : wr.drew.cell? ⟨(ad.add (k * 4)).block, (ad.add (k * 4)).off + 2, none⟩ = some (.int .u64 (q.2.2.1 : Int)) := by simpa using x2
      have y3 : wr.drew.cell? ⟨(ad.add (k * 4)).block, (ad.add (k * 4)).off + 3, none⟩ = some (.int .u64 (q.2.2.2 : Int)) := by simpa using x3
      have d3 : wr.drew.cell? ⟨w.heap.size + 1, 3, none⟩ = some (.slice RA k cm) := HBR.out.drew.cell 3
      have c0 : wr.cell? ⟨w.heap.size + 1, 0, none⟩ = some (.int .i64 9) := HBR.out.cell 0
      have d0 : wr.drew.cell? ⟨w.heap.size + 1, 0, none⟩ = some (.int .i64 9) := HBR.out.drew.cell 0
      have HTK := Lib.hid (show (((rs.take k).map tcut9).map qw) ++ [qw (tcut9 q)] = ((rs.take (k + 1)).map tcut9).map qw by rw [List.take_add_one, hq]; simp)
      have hfar := own_far HO.out HBR.out (by decide)
      have hfar0 := own_far HO.out HZR.out (by decide)
      rw [ownBlock_slice] at hfar hfar0
      have hbl1 := HBR.out.lt
      have kd := (Keeps.refl (fun _ => False) wr).drew
      have hbase := HK.out.size
      clear hcell hq
      go_wp2_with fail
      go_region_law (first
        | (go_simp; go_at_call 9
           refine (HC.out _ q).mono ?_
           rintro e w2 ⟨A2, c2, rfl, o2, K2⟩
           have hrw := Rd.own o2
           have hlo2 := o2.lt
           rw [ownBlock_slice] at hlo2
           have hb2 := HBR.out.keeps (kd.trans K2 (fun _ _ h => h)) (fun h => h)
           have v3 : w2.cell? ⟨w.heap.size + 1, 3, none⟩ = some (.slice RA k cm) := hb2.cell 3
           have l2 := hb2.lt
           have kb := (kd.trans K2 (fun _ _ h => h)).alloc (.cells #[.slice A2 1 c2] 44)
           have k2b := (Keeps.refl (fun _ => False) w2).alloc (.cells #[.slice A2 1 c2] 44)
           have HOB := Lib.hid (own_keeps HO.out kb (fun _ _ h => h))
           have HRD := Lib.hid (show Rd (w2.alloc (.cells #[.slice A2 1 c2] 44)) 1 A2 (qw (tcut9 q)).length (qw (tcut9 q)) from hrw.keeps k2b (fun _ _ h => h))
           have HLO : Hid (∀ i, ob A2 = some i → wr.heap.size ≤ i ∧ i < w2.heap.size) := Lib.hid (fun i hi => ⟨(hlo2 i hi).1, (hlo2 i hi).2⟩)
           have HKB := Lib.hid kb
           have HSZ := Lib.hid k2b.size
           have HRV := Lib.hid (rdOneH w2 44 (.slice A2 1 c2))
           have hbz : w.heap.size ≤ (w2.alloc (.cells #[.slice A2 1 c2] 44)).heap.size := Nat.le_trans hbase kb.size
           clear o2 K2 hrw hlo2 kb k2b hb2)
        | (refine step_append_rd _ rfl (.tmp 45) (.tmp 53) _ rfl w.heap.size 44 i0 _ 1 24 Tryz.underlying27 hi0 hz0 hz1 hz2 rfl Nat.one_pos RA cm k VS rfl HOB.out (some ⟨w2.heap.size, 0, none⟩) 1 1 [.slice A2 1 c2] rfl HRV.out (oneValH _ rfl) (by simp only [maxLen]; omega) (by omega) hbz ?_
           intro A3 c3' w3 o3 hg3 hat3
           have hb3 := (HBR.out.keeps HKB.out (fun h => h)).grown hg3 (Ne.symm hfar)
           have HZ3 := Lib.hid ((HZR.out.keeps HKB.out (fun h => h)).grown hg3 (Ne.symm hfar0))
           have HG3 := Lib.hid ((HK.out.trans HKB.out (fun _ _ h => h)).grown hg3 (fun i hi => .inr (HOB.out.lt i (by rw [ownBlock_slice]; exact hi)).1))
           have HRB3 := Lib.hid (RB.snoc (d := c2) (HRB.out.keeps HKB.out) HRD.out (fun i hi => ⟨by have := (HLO.out i hi).2; have := HSZ.out; omega, fun he => by have := (HLO.out i hi).1; have h5 := HO.out.lt i (by rw [ownBlock_slice]; exact he); omega⟩) hg3 hat3)
           have e3 : w3.cell? ⟨w.heap.size + 1, 3, none⟩ = some (.slice RA k cm) := hb3.cell 3
           have g3 : w3.frozen? ⟨w.heap.size + 1, 3, none⟩ = false := hb3.frozen 3
           have l3 := hb3.lt
           have HB3 := Lib.hid hb3
           have HO3 := Lib.hid o3
           clear o3 hg3 hat3 hb3))
      all_goals
        go_wp2_with fail
        have K3 := (Keeps.refl (fun i => i = w.heap.size + 1) w3).setCell (p := ⟨w.heap.size + 1, 3, none⟩) (.inl rfl) (.slice A3 (k + 1) c3')
        have hlo3 := HO3.out.lt
        rw [ownBlock_slice] at hlo3
        have hfl := HFL.out.snoc (n := 1) (d := c2) (B := A2) (fun q hq => by have := (HLO.out q hq).1; omega)
        have hR3 := HRB3.out.keepsS hfl K3 (fun i h => by omega)
        rw [HTK.out] at hR3
        go_roundw
        case rel => exact ⟨k + 1, A3, c3', VS ++ [.slice A2 1 c2], by omega, by go_num, Lib.hid (HB3.out.put 3 _), Lib.hid (own_keeps HO3.out K3 (fun q hq h => by rw [ownBlock_slice] at hq; exact own_far HO3.out HB3.out (by decide) (by rw [ownBlock_slice, hq, h]))), Lib.hid hR3, Lib.hid hfl, Lib.hid (HZ3.out.keeps K3 (by omega)), Lib.hid (HG3.out.trans K3 (fun i hi h => by omega))⟩
        case measure => (first | (simp [RowKit.intOf]; done) | (simp [RowKit.intOf]; omega))
    · have hkm : k = m := by omega
      subst hkm
      have x0 : wr.cell? ⟨w.heap.size + 1, 0, none⟩ = some (.int .i64 9) := HBR.out.cell 0
      have y0 : wr.cell? ⟨w.heap.size, 0, none⟩ = some (.int .i64 0) := HZR.out.cell 0
      have f0 : wr.frozen? ⟨w.heap.size, 0, none⟩ = false := HZR.out.frozen 0
      have x1 : wr.cell? ⟨w.heap.size + 1, 1, none⟩ = some (.int .i64 (-1)) := HBR.out.cell 1
      have y1 : wr.cell? ⟨w.heap.size, 1, none⟩ = some (.int .i64 0) := HZR.out.cell 1
      have f1 : wr.frozen? ⟨w.heap.size, 1, none⟩ = false := HZR.out.frozen 1
      have x2 : wr.cell? ⟨w.heap.size + 1, 2, none⟩ = some (.int .u8 0) := HBR.out.cell 2
      have y2 : wr.cell? ⟨w.heap.size, 2, none⟩ = some (.int .u8 0) := HZR.out.cell 2
      have f2 : wr.frozen? ⟨w.heap.size, 2, none⟩ = false := HZR.out.frozen 2
      have x3 : wr.cell? ⟨w.heap.size + 1, 3, none⟩ = some (.slice RA k cm) := HBR.out.cell 3
      have y3 : wr.cell? ⟨w.heap.size, 3, none⟩ = some (.slice none 0 0) := HZR.out.cell 3
      have f3 : wr.frozen? ⟨w.heap.size, 3, none⟩ = false := HZR.out.frozen 3
      have hlv := HZR.out.lt
      have hlb := HBR.out.lt
      have hU1 := HU.out.1
      go_wp2_with fail
      have r1 := ((((HZR.out.put 0 (.int .i64 9)).put 1 (.int .i64 (-1))).put 2 (.int .u8 0)).put 3 (.slice RA k cm))
      have hld := run_loadVar_row (P := Tryz.prog) _ w.heap.size 29 29 _ (0, 0) _ r1 Tryz.underlying29 rfl infoTCol
      have KS := (((((Keeps.refl (fun i => i = w.heap.size) wr).setCell (p := ⟨w.heap.size, 0, none⟩) (.inl rfl) (.int .i64 9)).setCell (p := ⟨w.heap.size, 1, none⟩) (.inl rfl) (.int .i64 (-1))).setCell (p := ⟨w.heap.size, 2, none⟩) (.inl rfl) (.int .u8 0)).setCell (p := ⟨w.heap.size, 3, none⟩) (.inl rfl) (.slice RA k cm))
      have hR := HRB.out.keepsS HFL.out KS (fun i h => by omega)
      rw [List.take_of_length_le (by rw [hU1]; exact Nat.le_refl _)] at hR
      have hfz := own_far HO.out HZR.out (by decide)
      rw [ownBlock_slice] at hfz
      exact bodyPost_ret (results_cell1 rfl _ ⟨w.heap.size, 0, none⟩ _ _ rfl hld) rfl ⟨RA, cm, rfl, hR.rows (own_keeps HO.out KS (fun q hq h => by rw [ownBlock_slice] at hq; subst h; exact hfz hq)), HK.out.trans KS (fun i hi h => by omega)⟩
theorem tcut10_len (q : W4) : (qw (tcut10 q)).length = 2 := rfl
set_option maxRecDepth 100000 in
set_option maxHeartbeats 2000000 in
theorem tcCol10 (w : World) (U : Option Addr) (m k0 : Nat) (rs : List W4) (hU : RowsW w U m rs) (hm : m ≤ 30) : Calls Tryz.prog 5 #[.int .u8 9, .int .u8 0, .int .u8 0, .slice U m k0] w fun e w' => ∃ RA cm, e = .returned (.agg #[.int .i64 10, .int .i64 (-1), .int .u8 0, .slice RA m cm]) ∧ RowsV w' RA ((rs.map tcut10).map qw) ∧ Keeps (fun _ => False) w w' := by
  obtain ⟨i0, hi0, hz0, hz1, hz2⟩ := info_parts hInfoR
  have HU := Lib.hid hU
  have HC := Lib.hid (fun w q => tcCut10 w q)
  have HZ := Lib.hid ((Whole.new w 29 #[.int .i64 0, .int .i64 0, .int .u8 0, .slice none 0 0]).alloc (.cells #[.int .i64 10, .int .i64 (-1), .int .u8 0, .slice none 0 0] 29))
  have hB0 := Whole.new (w.alloc (.cells #[.int .i64 0, .int .i64 0, .int .u8 0, .slice none 0 0] 29)) 29 #[.int .i64 10, .int .i64 (-1), .int .u8 0, .slice none 0 0]
  rw [World.size_alloc] at hB0
  have HB := Lib.hid hB0
  have HK0 := Lib.hid (((Keeps.refl (fun _ => False) w).alloc (.cells #[.int .i64 0, .int .i64 0, .int .u8 0, .slice none 0 0] 29)).alloc (.cells #[.int .i64 10, .int .i64 (-1), .int .u8 0, .slice none 0 0] 29))
  clear hU hB0
  go_enter Tryz.func5, Tryz.ntmps5
  go_wp2_with fail
  go_loopw [10] (fun i wr => ∃ (k : Nat) (RA : Option Addr) (cm : Nat) (VS : List Value), k ≤ m ∧ i = .int .i64 k ∧ Hid (Whole wr (w.heap.size + 1) 29 #[.int .i64 10, .int .i64 (-1), .int .u8 0, .slice RA k cm]) ∧ Hid (wr.ownsRow w.heap.size 44 1 (.slice RA k cm) k VS) ∧ Hid (RB wr RA VS (((rs.take k).map tcut10).map qw)) ∧ Hid (FromLo VS (w.heap.size + 2)) ∧ Hid (Whole wr w.heap.size 29 #[.int .i64 0, .int .i64 0, .int .u8 0, .slice none 0 0]) ∧ Hid (Keeps (fun _ => False) w wr)) (fun i _ => m - (RowKit.intOf i).toNat)
  case atStart => exact ⟨0, none, 0, [], Nat.zero_le _, rfl, HB, Lib.hid (World.ownsRow_nil _ _ _ _), Lib.hid (RB.nil _ _), Lib.hid (fun v h => by cases h), HZ, HK0⟩
  case round =>
    obtain ⟨k, RA, cm, VS, hk, rfl, HBR, HO, HRB, HFL, HZR, HK⟩ := hrel
    have c3 : wr.cell? ⟨w.heap.size + 1, 3, none⟩ = some (.slice RA k cm) := HBR.out.cell 3
    by_cases hlt : k < m
    · obtain ⟨q, hq⟩ : ∃ q, rs[k]? = some q := ⟨_, List.getElem?_eq_getElem (by rw [HU.out.1]; exact hlt)⟩
      obtain ⟨ad, rfl, hb, hcell⟩ := (HU.out.keeps HK.out).at' hq
      have x0 : wr.cell? (ad.add (k * 4)) = some (.int .u64 (q.1 : Int)) := hcell 0 _ rfl
      have x1 : wr.cell? ⟨(ad.add (k * 4)).block, (ad.add (k * 4)).off + 1, none⟩ = some (.int .u64 (q.2.1 : Int)) := hcell 1 _ rfl
      have x2 : wr.cell? ⟨(ad.add (k * 4)).block, (ad.add (k * 4)).off + 2, none⟩ = some (.int .u64 (q.2.2.1 : Int)) := hcell 2 _ rfl
      have x3 : wr.cell? ⟨(ad.add (k * 4)).block, (ad.add (k * 4)).off + 3, none⟩ = some (.int .u64 (q.2.2.2 : Int)) := hcell 3 _ rfl
      have y0 : wr.drew.cell? (ad.add (k * 4)) = some (.int .u64 (q.1 : Int)) := by simpa using x0
      have y1 : wr.drew.cell? ⟨(ad.add (k * 4)).block, (ad.add (k * 4)).off + 1, none⟩ = some (.int .u64 (q.2.1 : Int)) := by simpa using x1
      have y2 : wr.drew.cell? ⟨(ad.add (k * 4)).block, (ad.add (k * 4)).off + 2, none⟩ = some (.int .u64 (q.2.2.1 : Int)) := by simpa using x2
      have y3 : wr.drew.cell? ⟨(ad.add (k * 4)).block, (ad.add (k * 4)).off + 3, none⟩ = some (.int .u64 (q.2.2.2 : Int)) := by simpa using x3
      have d3 : wr.drew.cell? ⟨w.heap.size + 1, 3, none⟩ = some (.slice RA k cm) := HBR.out.drew.cell 3
      have c0 : wr.cell? ⟨w.heap.size + 1, 0, none⟩ = some (.int .i64 10) := HBR.out.cell 0
      have d0 : wr.drew.cell? ⟨w.heap.size + 1, 0, none⟩ = some (.int .i64 10) := HBR.out.drew.cell 0
      have HTK := Lib.hid (show (((rs.take k).map tcut10).map qw) ++ [qw (tcut10 q)] = ((rs.take (k + 1)).map tcut10).map qw by rw [List.take_add_one, hq]; simp)
      have hfar := own_far HO.out HBR.out (by decide)
      have hfar0 := own_far HO.out HZR.out (by decide)
      rw [ownBlock_slice] at hfar hfar0
      have hbl1 := HBR.out.lt
      have kd := (Keeps.refl (fun _ => False) wr).drew
      have hbase := HK.out.size
      clear hcell hq
      go_wp2_with fail
      go_region_law (first
        | (go_simp; go_at_call 9
           refine (HC.out _ q).mono ?_
           rintro e w2 ⟨A2, c2, rfl, o2, K2⟩
           have hrw := Rd.own o2
           have hlo2 := o2.lt
           rw [ownBlock_slice] at hlo2
           have hb2 := HBR.out.keeps (kd.trans K2 (fun _ _ h => h)) (fun h => h)
           have v3 : w2.cell? ⟨w.heap.size + 1, 3, none⟩ = some (.slice RA k cm) := hb2.cell 3
           have l2 := hb2.lt
           have kb := (kd.trans K2 (fun _ _ h => h)).alloc (.cells #[.slice A2 2 c2] 44)
           have k2b := (Keeps.refl (fun _ => False) w2).alloc (.cells #[.slice A2 2 c2] 44)
           have HOB := Lib.hid (own_keeps HO.out kb (fun _ _ h => h))
           have HRD := Lib.hid (show Rd (w2.alloc (.cells #[.slice A2 2 c2] 44)) 1 A2 (qw (tcut10 q)).length (qw (tcut10 q)) from hrw.keeps k2b (fun _ _ h => h))
           have HLO : Hid (∀ i, ob A2 = some i → wr.heap.size ≤ i ∧ i < w2.heap.size) := Lib.hid (fun i hi => ⟨(hlo2 i hi).1, (hlo2 i hi).2⟩)
           have HKB := Lib.hid kb
           have HSZ := Lib.hid k2b.size
           have HRV := Lib.hid (rdOneH w2 44 (.slice A2 2 c2))
           have hbz : w.heap.size ≤ (w2.alloc (.cells #[.slice A2 2 c2] 44)).heap.size := Nat.le_trans hbase kb.size
           clear o2 K2 hrw hlo2 kb k2b hb2)
        | (refine step_append_rd _ rfl (.tmp 45) (.tmp 53) _ rfl w.heap.size 44 i0 _ 1 24 Tryz.underlying27 hi0 hz0 hz1 hz2 rfl Nat.one_pos RA cm k VS rfl HOB.out (some ⟨w2.heap.size, 0, none⟩) 1 1 [.slice A2 2 c2] rfl HRV.out (oneValH _ rfl) (by simp only [maxLen]; omega) (by omega) hbz ?_
           intro A3 c3' w3 o3 hg3 hat3
           have hb3 := (HBR.out.keeps HKB.out (fun h => h)).grown hg3 (Ne.symm hfar)
           have HZ3 := Lib.hid ((HZR.out.keeps HKB.out (fun h => h)).grown hg3 (Ne.symm hfar0))
           have HG3 := Lib.hid ((HK.out.trans HKB.out (fun _ _ h => h)).grown hg3 (fun i hi => .inr (HOB.out.lt i (by rw [ownBlock_slice]; exact hi)).1))
           have HRB3 := Lib.hid (RB.snoc (d := c2) (HRB.out.keeps HKB.out) HRD.out (fun i hi => ⟨by have := (HLO.out i hi).2; have := HSZ.out; omega, fun he => by have := (HLO.out i hi).1; have h5 := HO.out.lt i (by rw [ownBlock_slice]; exact he); omega⟩) hg3 hat3)
           have e3 : w3.cell? ⟨w.heap.size + 1, 3, none⟩ = some (.slice RA k cm) := hb3.cell 3
           have g3 : w3.frozen? ⟨w.heap.size + 1, 3, none⟩ = false := hb3.frozen 3
           have l3 := hb3.lt
           have HB3 := Lib.hid hb3
           have HO3 := Lib.hid o3
           clear o3 hg3 hat3 hb3))
      all_goals
        go_wp2_with fail
        have K3 := (Keeps.refl (fun i => i = w.heap.size + 1) w3).setCell (p := ⟨w.heap.size + 1, 3, none⟩) (.inl rfl) (.slice A3 (k + 1) c3')
        have hlo3 := HO3.out.lt
        rw [ownBlock_slice] at hlo3
        have hfl := HFL.out.snoc (n := 2) (d := c2) (B := A2) (fun q hq => by have := (HLO.out q hq).1; omega)
        have hR3 := HRB3.out.keepsS hfl K3 (fun i h => by omega)
        rw [HTK.out] at hR3
        go_roundw
        case rel => exact ⟨k + 1, A3, c3', VS ++ [.slice A2 2 c2], by omega, by go_num, Lib.hid (HB3.out.put 3 _), Lib.hid (own_keeps HO3.out K3 (fun q hq h => by rw [ownBlock_slice] at hq; exact own_far HO3.out HB3.out (by decide) (by rw [ownBlock_slice, hq, h]))), Lib.hid hR3, Lib.hid hfl, Lib.hid (HZ3.out.keeps K3 (by omega)), Lib.hid (HG3.out.trans K3 (fun i hi h => by omega))⟩
        case measure => (first | (simp [RowKit.intOf]; done) | (simp [RowKit.intOf]; omega))
    · have hkm : k = m := by omega
      subst hkm
      have x0 : wr.cell? ⟨w.heap.size + 1, 0, none⟩ = some (.int .i64 10) := HBR.out.cell 0
      have y0 : wr.cell? ⟨w.heap.size, 0, none⟩ = some (.int .i64 0) := HZR.out.cell 0
      have f0 : wr.frozen? ⟨w.heap.size, 0, none⟩ = false := HZR.out.frozen 0
      have x1 : wr.cell? ⟨w.heap.size + 1, 1, none⟩ = some (.int .i64 (-1)) := HBR.out.cell 1
      have y1 : wr.cell? ⟨w.heap.size, 1, none⟩ = some (.int .i64 0) := HZR.out.cell 1
      have f1 : wr.frozen? ⟨w.heap.size, 1, none⟩ = false := HZR.out.frozen 1
      have x2 : wr.cell? ⟨w.heap.size + 1, 2, none⟩ = some (.int .u8 0) := HBR.out.cell 2
      have y2 : wr.cell? ⟨w.heap.size, 2, none⟩ = some (.int .u8 0) := HZR.out.cell 2
      have f2 : wr.frozen? ⟨w.heap.size, 2, none⟩ = false := HZR.out.frozen 2
      have x3 : wr.cell? ⟨w.heap.size + 1, 3, none⟩ = some (.slice RA k cm) := HBR.out.cell 3
      have y3 : wr.cell? ⟨w.heap.size, 3, none⟩ = some (.slice none 0 0) := HZR.out.cell 3
      have f3 : wr.frozen? ⟨w.heap.size, 3, none⟩ = false := HZR.out.frozen 3
      have hlv := HZR.out.lt
      have hlb := HBR.out.lt
      have hU1 := HU.out.1
      go_wp2_with fail
      have r1 := ((((HZR.out.put 0 (.int .i64 10)).put 1 (.int .i64 (-1))).put 2 (.int .u8 0)).put 3 (.slice RA k cm))
      have hld := run_loadVar_row (P := Tryz.prog) _ w.heap.size 29 29 _ (0, 0) _ r1 Tryz.underlying29 rfl infoTCol
      have KS := (((((Keeps.refl (fun i => i = w.heap.size) wr).setCell (p := ⟨w.heap.size, 0, none⟩) (.inl rfl) (.int .i64 10)).setCell (p := ⟨w.heap.size, 1, none⟩) (.inl rfl) (.int .i64 (-1))).setCell (p := ⟨w.heap.size, 2, none⟩) (.inl rfl) (.int .u8 0)).setCell (p := ⟨w.heap.size, 3, none⟩) (.inl rfl) (.slice RA k cm))
      have hR := HRB.out.keepsS HFL.out KS (fun i h => by omega)
      rw [List.take_of_length_le (by rw [hU1]; exact Nat.le_refl _)] at hR
      have hfz := own_far HO.out HZR.out (by decide)
      rw [ownBlock_slice] at hfz
      exact bodyPost_ret (results_cell1 rfl _ ⟨w.heap.size, 0, none⟩ _ _ rfl hld) rfl ⟨RA, cm, rfl, hR.rows (own_keeps HO.out KS (fun q hq h => by rw [ownBlock_slice] at hq; subst h; exact hfz hq)), HK.out.trans KS (fun i hi h => by omega)⟩
theorem tcut11_len (q : W4) : (qw (tcut11 q)).length = 4 := rfl
set_option maxRecDepth 100000 in
set_option maxHeartbeats 2000000 in
theorem tcCol11 (w : World) (U : Option Addr) (m k0 : Nat) (rs : List W4) (hU : RowsW w U m rs) (hm : m ≤ 30) : Calls Tryz.prog 5 #[.int .u8 10, .int .u8 0, .int .u8 0, .slice U m k0] w fun e w' => ∃ RA cm, e = .returned (.agg #[.int .i64 11, .int .i64 (-1), .int .u8 0, .slice RA m cm]) ∧ RowsV w' RA ((rs.map tcut11).map qw) ∧ Keeps (fun _ => False) w w' := by
  obtain ⟨i0, hi0, hz0, hz1, hz2⟩ := info_parts hInfoR
  have HU := Lib.hid hU
  have HC := Lib.hid (fun w q => tcCut11 w q)
  have HZ := Lib.hid ((Whole.new w 29 #[.int .i64 0, .int .i64 0, .int .u8 0, .slice none 0 0]).alloc (.cells #[.int .i64 11, .int .i64 (-1), .int .u8 0, .slice none 0 0] 29))
  have hB0 := Whole.new (w.alloc (.cells #[.int .i64 0, .int .i64 0, .int .u8 0, .slice none 0 0] 29)) 29 #[.int .i64 11, .int .i64 (-1), .int .u8 0, .slice none 0 0]
  rw [World.size_alloc] at hB0
  have HB := Lib.hid hB0
  have HK0 := Lib.hid (((Keeps.refl (fun _ => False) w).alloc (.cells #[.int .i64 0, .int .i64 0, .int .u8 0, .slice none 0 0] 29)).alloc (.cells #[.int .i64 11, .int .i64 (-1), .int .u8 0, .slice none 0 0] 29))
  clear hU hB0
  go_enter Tryz.func5, Tryz.ntmps5
  go_wp2_with fail
  go_loopw [10] (fun i wr => ∃ (k : Nat) (RA : Option Addr) (cm : Nat) (VS : List Value), k ≤ m ∧ i = .int .i64 k ∧ Hid (Whole wr (w.heap.size + 1) 29 #[.int .i64 11, .int .i64 (-1), .int .u8 0, .slice RA k cm]) ∧ Hid (wr.ownsRow w.heap.size 44 1 (.slice RA k cm) k VS) ∧ Hid (RB wr RA VS (((rs.take k).map tcut11).map qw)) ∧ Hid (FromLo VS (w.heap.size + 2)) ∧ Hid (Whole wr w.heap.size 29 #[.int .i64 0, .int .i64 0, .int .u8 0, .slice none 0 0]) ∧ Hid (Keeps (fun _ => False) w wr)) (fun i _ => m - (RowKit.intOf i).toNat)
  case atStart => exact ⟨0, none, 0, [], Nat.zero_le _, rfl, HB, Lib.hid (World.ownsRow_nil _ _ _ _), Lib.hid (RB.nil _ _), Lib.hid (fun v h => by cases h), HZ, HK0⟩
  case round =>
    obtain ⟨k, RA, cm, VS, hk, rfl, HBR, HO, HRB, HFL, HZR, HK⟩ := hrel
    have c3 : wr.cell? ⟨w.heap.size + 1, 3, none⟩ = some (.slice RA k cm) := HBR.out.cell 3
    by_cases hlt : k < m
    · obtain ⟨q, hq⟩ : ∃ q, rs[k]? = some q := ⟨_, List.getElem?_eq_getElem (by rw [HU.out.1]; exact hlt)⟩
      obtain ⟨ad, rfl, hb, hcell⟩ := (HU.out.keeps HK.out).at' hq
      have x0 : wr.cell? (ad.add (k * 4)) = some (.int .u64 (q.1 : Int)) := hcell 0 _ rfl
      have x1 : wr.cell? ⟨(ad.add (k * 4)).block, (ad.add (k * 4)).off + 1, none⟩ = some (.int .u64 (q.2.1 : Int)) := hcell 1 _ rfl
      have x2 : wr.cell? ⟨(ad.add (k * 4)).block, (ad.add (k * 4)).off + 2, none⟩ = some (.int .u64 (q.2.2.1 : Int)) := hcell 2 _ rfl
      have x3 : wr.cell? ⟨(ad.add (k * 4)).block, (ad.add (k * 4)).off + 3, none⟩ = some (.int .u64 (q.2.2.2 : Int)) := hcell 3 _ rfl
      have y0 : wr.drew.cell? (ad.add (k * 4)) = some (.int .u64 (q.1 : Int)) := by simpa using x0
      have y1 : wr.drew.cell? ⟨(ad.add (k * 4)).block, (ad.add (k * 4)).off + 1, none⟩ = some (.int .u64 (q.2.1 : Int)) := by simpa using x1
      have y2 : wr.drew.cell? ⟨(ad.add (k * 4)).block, (ad.add (k * 4)).off + 2, none⟩ = some (.int .u64 (q.2.2.1 : Int)) := by simpa using x2
      have y3 : wr.drew.cell? ⟨(ad.add (k * 4)).block, (ad.add (k * 4)).off + 3, none⟩ = some (.int .u64 (q.2.2.2 : Int)) := by simpa using x3
      have d3 : wr.drew.cell? ⟨w.heap.size + 1, 3, none⟩ = some (.slice RA k cm) := HBR.out.drew.cell 3
      have c0 : wr.cell? ⟨w.heap.size + 1, 0, none⟩ = some (.int .i64 11) := HBR.out.cell 0
      have d0 : wr.drew.cell? ⟨w.heap.size + 1, 0, none⟩ = some (.int .i64 11) := HBR.out.drew.cell 0
      have HTK := Lib.hid (show (((rs.take k).map tcut11).map qw) ++ [qw (tcut11 q)] = ((rs.take (k + 1)).map tcut11).map qw by rw [List.take_add_one, hq]; simp)
      have hfar := own_far HO.out HBR.out (by decide)
      have hfar0 := own_far HO.out HZR.out (by decide)
      rw [ownBlock_slice] at hfar hfar0
      have hbl1 := HBR.out.lt
      have kd := (Keeps.refl (fun _ => False) wr).drew
      have hbase := HK.out.size
      clear hcell hq
      go_wp2_with fail
      go_region_law (first
        | (go_simp; go_at_call 9
           refine (HC.out _ q).mono ?_
           rintro e w2 ⟨A2, c2, rfl, o2, K2⟩
           have hrw := Rd.own o2
           have hlo2 := o2.lt
           rw [ownBlock_slice] at hlo2
           have hb2 := HBR.out.keeps (kd.trans K2 (fun _ _ h => h)) (fun h => h)
           have v3 : w2.cell? ⟨w.heap.size + 1, 3, none⟩ = some (.slice RA k cm) := hb2.cell 3
           have l2 := hb2.lt
           have kb := (kd.trans K2 (fun _ _ h => h)).alloc (.cells #[.slice A2 4 c2] 44)
           have k2b := (Keeps.refl (fun _ => False) w2).alloc (.cells #[.slice A2 4 c2] 44)
           have HOB := Lib.hid (own_keeps HO.out kb (fun _ _ h => h))
           have HRD := Lib.hid (show Rd (w2.alloc (.cells #[.slice A2 4 c2] 44)) 1 A2 (qw (tcut11 q)).length (qw (tcut11 q)) from hrw.keeps k2b (fun _ _ h => h))
           have HLO : Hid (∀ i, ob A2 = some i → wr.heap.size ≤ i ∧ i < w2.heap.size) := Lib.hid (fun i hi => ⟨(hlo2 i hi).1, (hlo2 i hi).2⟩)
           have HKB := Lib.hid kb
           have HSZ := Lib.hid k2b.size
           have HRV := Lib.hid (rdOneH w2 44 (.slice A2 4 c2))
           have hbz : w.heap.size ≤ (w2.alloc (.cells #[.slice A2 4 c2] 44)).heap.size := Nat.le_trans hbase kb.size
           clear o2 K2 hrw hlo2 kb k2b hb2)
        | (refine step_append_rd _ rfl (.tmp 45) (.tmp 53) _ rfl w.heap.size 44 i0 _ 1 24 Tryz.underlying27 hi0 hz0 hz1 hz2 rfl Nat.one_pos RA cm k VS rfl HOB.out (some ⟨w2.heap.size, 0, none⟩) 1 1 [.slice A2 4 c2] rfl HRV.out (oneValH _ rfl) (by simp only [maxLen]; omega) (by omega) hbz ?_
           intro A3 c3' w3 o3 hg3 hat3
           have hb3 := (HBR.out.keeps HKB.out (fun h => h)).grown hg3 (Ne.symm hfar)
           have HZ3 := Lib.hid ((HZR.out.keeps HKB.out (fun h => h)).grown hg3 (Ne.symm hfar0))
           have HG3 := Lib.hid ((HK.out.trans HKB.out (fun _ _ h => h)).grown hg3 (fun i hi => .inr (HOB.out.lt i (by rw [ownBlock_slice]; exact hi)).1))
           have HRB3 := Lib.hid (RB.snoc (d := c2) (HRB.out.keeps HKB.out) HRD.out (fun i hi => ⟨by have := (HLO.out i hi).2; have := HSZ.out; omega, fun he => by have := (HLO.out i hi).1; have h5 := HO.out.lt i (by rw [ownBlock_slice]; exact he); omega⟩) hg3 hat3)
           have e3 : w3.cell? ⟨w.heap.size + 1, 3, none⟩ = some (.slice RA k cm) := hb3.cell 3
           have g3 : w3.frozen? ⟨w.heap.size + 1, 3, none⟩ = false := hb3.frozen 3
           have l3 := hb3.lt
           have HB3 := Lib.hid hb3
           have HO3 := Lib.hid o3
           clear o3 hg3 hat3 hb3))
      all_goals
        go_wp2_with fail
        have K3 := (Keeps.refl (fun i => i = w.heap.size + 1) w3).setCell (p := ⟨w.heap.size + 1, 3, none⟩) (.inl rfl) (.slice A3 (k + 1) c3')
        have hlo3 := HO3.out.lt
        rw [ownBlock_slice] at hlo3
        have hfl := HFL.out.snoc (n := 4) (d := c2) (B := A2) (fun q hq => by have := (HLO.out q hq).1; omega)
        have hR3 := HRB3.out.keepsS hfl K3 (fun i h => by omega)
        rw [HTK.out] at hR3
        go_roundw
        case rel => exact ⟨k + 1, A3, c3', VS ++ [.slice A2 4 c2], by omega, by go_num, Lib.hid (HB3.out.put 3 _), Lib.hid (own_keeps HO3.out K3 (fun q hq h => by rw [ownBlock_slice] at hq; exact own_far HO3.out HB3.out (by decide) (by rw [ownBlock_slice, hq, h]))), Lib.hid hR3, Lib.hid hfl, Lib.hid (HZ3.out.keeps K3 (by omega)), Lib.hid (HG3.out.trans K3 (fun i hi h => by omega))⟩
        case measure => (first | (simp [RowKit.intOf]; done) | (simp [RowKit.intOf]; omega))
    · have hkm : k = m := by omega
      subst hkm
      have x0 : wr.cell? ⟨w.heap.size + 1, 0, none⟩ = some (.int .i64 11) := HBR.out.cell 0
      have y0 : wr.cell? ⟨w.heap.size, 0, none⟩ = some (.int .i64 0) := HZR.out.cell 0
      have f0 : wr.frozen? ⟨w.heap.size, 0, none⟩ = false := HZR.out.frozen 0
      have x1 : wr.cell? ⟨w.heap.size + 1, 1, none⟩ = some (.int .i64 (-1)) := HBR.out.cell 1
      have y1 : wr.cell? ⟨w.heap.size, 1, none⟩ = some (.int .i64 0) := HZR.out.cell 1
      have f1 : wr.frozen? ⟨w.heap.size, 1, none⟩ = false := HZR.out.frozen 1
      have x2 : wr.cell? ⟨w.heap.size + 1, 2, none⟩ = some (.int .u8 0) := HBR.out.cell 2
      have y2 : wr.cell? ⟨w.heap.size, 2, none⟩ = some (.int .u8 0) := HZR.out.cell 2
      have f2 : wr.frozen? ⟨w.heap.size, 2, none⟩ = false := HZR.out.frozen 2
      have x3 : wr.cell? ⟨w.heap.size + 1, 3, none⟩ = some (.slice RA k cm) := HBR.out.cell 3
      have y3 : wr.cell? ⟨w.heap.size, 3, none⟩ = some (.slice none 0 0) := HZR.out.cell 3
      have f3 : wr.frozen? ⟨w.heap.size, 3, none⟩ = false := HZR.out.frozen 3
      have hlv := HZR.out.lt
      have hlb := HBR.out.lt
      have hU1 := HU.out.1
      go_wp2_with fail
      have r1 := ((((HZR.out.put 0 (.int .i64 11)).put 1 (.int .i64 (-1))).put 2 (.int .u8 0)).put 3 (.slice RA k cm))
      have hld := run_loadVar_row (P := Tryz.prog) _ w.heap.size 29 29 _ (0, 0) _ r1 Tryz.underlying29 rfl infoTCol
      have KS := (((((Keeps.refl (fun i => i = w.heap.size) wr).setCell (p := ⟨w.heap.size, 0, none⟩) (.inl rfl) (.int .i64 11)).setCell (p := ⟨w.heap.size, 1, none⟩) (.inl rfl) (.int .i64 (-1))).setCell (p := ⟨w.heap.size, 2, none⟩) (.inl rfl) (.int .u8 0)).setCell (p := ⟨w.heap.size, 3, none⟩) (.inl rfl) (.slice RA k cm))
      have hR := HRB.out.keepsS HFL.out KS (fun i h => by omega)
      rw [List.take_of_length_le (by rw [hU1]; exact Nat.le_refl _)] at hR
      have hfz := own_far HO.out HZR.out (by decide)
      rw [ownBlock_slice] at hfz
      exact bodyPost_ret (results_cell1 rfl _ ⟨w.heap.size, 0, none⟩ _ _ rfl hld) rfl ⟨RA, cm, rfl, hR.rows (own_keeps HO.out KS (fun q hq h => by rw [ownBlock_slice] at hq; subst h; exact hfz hq)), HK.out.trans KS (fun i hi h => by omega)⟩
end Go.Proofs.YtmdmccjmmljbkaaGreat
