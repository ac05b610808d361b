/- FnSTState's walk. Conditions: the argument reads as its bytes. -/
import Derived.Test.YtajgalokiobdlaaGreatSs
import Derived.Test.YtajgalokiobdlaaGreatRow
import Derived.Deep.RegionHeld3
namespace Go.Proofs.YtajgalokiobdlaaGreat
open Go.RowKit Go.Lib
set_option linter.unusedVariables false
theorem cv_st {w : World} {A : Option Addr} {n c : Nat} {l : List UInt8} (h : Rd w 1 A n (Lib.byteCells l)) : (convert 22 9 (.slice A n c)).run Tryz.prog w = .ok (.string ⟨l.toArray⟩) w :=
  run_str_rd Tryz.underlying22 Tryz.underlying5 Tryz.underlying9 h
def cvOp (s d : TypeId) (x : Operand) : Op := .convert s d x
theorem cvOp_eq (s d : TypeId) (x : Operand) : cvOp s d x = .convert s d x := rfl
attribute [local go_sem] cvOp_eq
theorem stTail (w : World) (A : Option Addr) (n c : Nat) (hc : n ≤ c) (hn : n ≤ 9223372036854775807) :
    Calls Tryz.prog 7 #[.slice A n c] w fun e w' => e = .returned (.slice A (min n 40) c) ∧ w' = w := by
  go_enter Tryz.func7, Tryz.ntmps7
  by_cases h : 40 < n
  · have h1 : min n 40 = 40 := by omega
    have h2 : ((40 : Int) < (n : Int)) = True := by simp; omega
    go_wp2_with fail
    go_ret
    rw [h1]
    exact ⟨rfl, rfl⟩
  · have h1 : min n 40 = n := by omega
    have h2 : ((40 : Int) < (n : Int)) = False := by simp; omega
    go_wp2_with fail
    go_ret
    rw [h1]
    exact ⟨rfl, rfl⟩
theorem own_cap {w : World} {b : Nat} {e : TypeId} {n c : Nat} {A : Option Addr} {xs : List Value} (h : w.ownsRow b e 1 (.slice A n c) n xs) (hn : 0 < n) : n ≤ c ∧ (∀ i, ob A = some i → i < w.heap.size) := by
  refine ⟨?_, fun i hi => (h.lt i (by rw [ownBlock_slice]; exact hi)).2⟩
  rcases h.2 with ⟨_, h0⟩ | ⟨g, cap, cur, hv, _, _, hle, _⟩
  · omega
  · injection hv with _ _ h3
    omega
theorem rd_first {w : World} {n k : Nat} {A : Option Addr} {l : List UInt8} (h : Rd w 1 A n (Lib.byteCells l)) (hk : k ≤ n) : Rd w 1 A k (Lib.byteCells (l.take k)) := by
  have h0 : Lib.byteCells (l.take k) = (Lib.byteCells l).take k := by simp only [Lib.byteCells, List.map_take]
  rw [h0]
  refine ⟨by rw [List.length_take, h.1]; omega, fun hn => ?_⟩
  obtain ⟨ad, rfl, hb, hc⟩ := h.2 (by omega)
  refine ⟨ad, rfl, hb, fun j u hu => hc j u ?_⟩
  rw [List.getElem?_take] at hu
  split at hu
  · exact hu
  · cases hu
theorem sJ {w : World} {g g1 c1 : Nat} (h1 : Rd w 1 (some ⟨g1, 0, none⟩) 8 (Lib.byteCells [1, 0, 0, 0, 0, 0, 0, 0])) (h : Whole w g 24 #[.int .i64 2, .int .i64 0]) : w.cell? ⟨g, 0, none⟩ = some (.int .i64 2) ∧ w.cell? ⟨g, 0 + 1, none⟩ = some (.int .i64 0) ∧ (convert 22 9 (.slice (some ⟨g1, 0, none⟩) 8 c1)).run Tryz.prog w = .ok (.string ⟨#[1, 0, 0, 0, 0, 0, 0, 0]⟩) w := ⟨h.cell 0, h.cell 1, cv_st h1⟩
theorem cellsJ {w : World} {g : Nat} (h : Whole w g 24 #[.int .i64 2, .int .i64 0]) : w.cell? ⟨g, 0, none⟩ = some (.int .i64 2) ∧ w.cell? ⟨g, 0 + 1, none⟩ = some (.int .i64 0) := ⟨h.cell 0, h.cell 1⟩
set_option maxRecDepth 100000 in
set_option maxHeartbeats 4000000 in
theorem stStateWalkJ (w : World) (a : Int) (ha : 0 ≤ a) (hm : a % 2 = 0) (A : Option Addr) (n c : Nat) (d : List UInt8) (hl : d.length = n) (hR : Rd w 1 A n (Lib.byteCells d)) (hc : n ≤ c) (hn : n ≤ 9223372036854775807) :
    Calls Tryz.prog 3 #[.int .u8 a, .slice A n c] w fun e w' => e = .returned (.bool true) ∧ Below w.heap.size w w' := by
  have HT := Lib.hid (fun w => stTail w A n c hc hn)
  have hq : min n 40 ≤ 40 := by omega
  have hr : (d.take 40).length = min n 40 := by rw [List.length_take, hl]; omega
  have HR := Lib.hid (rd_first hR (k := min n 40) (by omega))
  rw [show d.take (min n 40) = d.take 40 by rw [← hl, List.take_eq_take_min, ← List.take_eq_take_min, Nat.min_comm, List.take_eq_take_min (i := 40)]] at HR
  generalize d.take 40 = t at *
  generalize hm2 : min n 40 = m at *
  clear hm2
  have HL := Lib.hid hr
  have HQ := Lib.hid hq
  clear hr hq
  have e1 : Int.tmod a 2 = 0 := by rw [Int.tmod_eq_emod_of_nonneg ha, hm]
  clear hR hl hc hn hm ha
  by_cases hb : 2147483647 < n
  · have h2 : ((2147483647 : Int) < (n : Int)) = True := by simp; omega
    clear hb
    go_enter Tryz.func3, Tryz.ntmps3
    go_wp2_with fail
    go_ret
    exact ⟨rfl, Below.refl _ _⟩
  · have h2 : ((2147483647 : Int) < (n : Int)) = False := by simp; omega
    clear hb
    go_enter Tryz.func3, Tryz.ntmps3
    go_wp2_with fail
    have HW0 := Lib.hid (Whole.new w 24 #[.int .i64 2, .int .i64 0])
    have HK0 := Lib.hid ((Keeps.refl (fun _ => False) w).alloc (.cells #[.int .i64 2, .int .i64 0] 24))
    refine (stNumber _ 1 8 (by decide) (by decide)).mono ?_
    rintro e w1 ⟨A1, c1, rfl, o1, K1, _⟩
    have HW1 := Lib.hid (HW0.out.keeps K1 (fun h => h))
    have hka := HK0.out.trans K1 (fun _ _ h => h)
    rw [leb1] at o1
    have HO1 := Lib.hid o1
    clear o1 K1
    obtain ⟨g1, c0, hA1, _, _⟩ := HO1.out.form (by decide)
    injection hA1 with hA1 _ hc1
    subst hA1 hc1
    obtain ⟨hc8, hx1⟩ := own_cap HO1.out (by decide)
    have HO := Lib.hid (Rd.own HO1.out)
    have hkk := (Keeps.refl (fun _ => False) w1).drew
    have hkb : Keeps (fun _ => False) w1 (w1.alloc (.cells #[.slice (some ⟨g1, 0, none⟩) 8 c1, .slice A m c] 22)).drew := ((Keeps.refl (fun _ => False) w1).alloc _).drew
    have hwb : Whole (w1.alloc (.cells #[.slice (some ⟨g1, 0, none⟩) 8 c1, .slice A m c] 22)).drew w1.heap.size 22 #[.slice (some ⟨g1, 0, none⟩) 8 c1, .slice A m c] := (Whole.new w1 _ _).keeps (S := fun _ => False) (Keeps.refl _ _).drew (fun h => h)
    have hcells : w1.drew.cell? ⟨w.heap.size, 0, none⟩ = some (.int .i64 2) ∧ w1.drew.cell? ⟨w.heap.size, 0 + 1, none⟩ = some (.int .i64 0) := ⟨(HW1.out.keeps hkk (fun h => h)).cell 0, (HW1.out.keeps hkk (fun h => h)).cell 1⟩
    go_wp2_with fail
    go_region_held3 (fun w' => w'.cell? ⟨w.heap.size, 0, none⟩ = some (.int .i64 2) ∧ w'.cell? ⟨w.heap.size, 0 + 1, none⟩ = some (.int .i64 0)) (first | exact hcells | exact cellsJ (HW1.out.keeps hkb (fun h => h))) (first
      | (go_at_call 5; refine (stReadOkJ _ Aj (8 + m) cj t (by rw [List.length_append, HL.out]; rfl) hrj hcj hxj).mono ?_; rintro e wr ⟨rfl, Kr⟩; rw [HL.out]; have hkk := hkk.trans Kr (fun _ _ h => h); have hcells := cellsJ (HW1.out.keeps hkk (fun h => h)))
      | (go_at_call 6; refine (stJoinTwo _ w1.heap.size 22 (some ⟨g1, 0, none⟩) A 8 c1 m c [1, 0, 0, 0, 0, 0, 0, 0] t hwb (HO.out.keeps hkb (fun _ _ h => h)) (HR.out.keeps (hka.trans hkb (fun _ _ h => h)) (fun _ _ h => h)) (by have := HQ.out; omega)).mono ?_; rintro e wj ⟨Aj, cj, rfl, oj, Kj, _⟩; have hrj := Rd.own oj; obtain ⟨hcj, hxj⟩ := own_cap oj (by omega); have hkk := hkb.trans Kj (fun _ _ h => h); have hcells := cellsJ (HW1.out.keeps hkk (fun h => h)))
      | (go_at_call 7; refine (HT.out _).mono ?_; rintro e wt ⟨rfl, rfl⟩))
    all_goals
      have HK5 := Lib.hid hkk
      have HR7 := Lib.hid (rd_first (HO.out.keeps hkk (fun _ _ h => h)) (k := 7) (by omega))
      rw [show ([1, 0, 0, 0, 0, 0, 0, 0] : List UInt8).take 7 = [1, 0, 0, 0, 0, 0, 0] from rfl] at HR7
      clear hcells hkk
      clear hcells hkk
      clear hcells hkk
      rename World => w2
      have hkk := (Keeps.refl (fun _ => False) w2).drew
      have hcells := cellsJ (HW1.out.keeps (HK5.out.trans hkk (fun _ _ h => h)) (fun h => h))
      have h7 : (7 : Int) ≤ (c1 : Int) := by omega
      go_wp2_with fail
      go_region_held3 (fun w' => w'.cell? ⟨w.heap.size, 0, none⟩ = some (.int .i64 2) ∧ w'.cell? ⟨w.heap.size, 0 + 1, none⟩ = some (.int .i64 0)) (first | exact hcells) (
        (go_at_call 5; refine (stReadErrJ _ (some ⟨g1, 0, none⟩) 7 c1 [1, 0, 0, 0, 0, 0, 0] (by decide) rfl (HR7.out.keeps hkk (fun _ _ h => h)) (by omega) (fun i hi => Nat.lt_of_lt_of_le (hx1 i hi) (HK5.out.trans hkk (fun _ _ h => h)).size)).mono ?_; rintro e wr ⟨rfl, Kr⟩; have hkk := hkk.trans Kr (fun _ _ h => h); have hcells := cellsJ (HW1.out.keeps (HK5.out.trans hkk (fun _ _ h => h)) (fun h => h))))
      all_goals
        have HK6 := Lib.hid (HK5.out.trans hkk (fun _ _ h => h))
        clear hcells hkk
        clear hcells hkk
        clear HK5
        rename World => w3
        have hkk := (HK6.out.drew)
        have hcells := sJ (c1 := c1) (HO.out.keeps hkk (fun _ _ h => h)) (HW1.out.keeps hkk (fun h => h))
        go_wp2_with fail
        rw [show Op.convert 22 9 (.tmp 38) = cvOp 22 9 (.tmp 38) from rfl]
        go_region_held3 (fun w' => w'.cell? ⟨w.heap.size, 0, none⟩ = some (.int .i64 2) ∧ w'.cell? ⟨w.heap.size, 0 + 1, none⟩ = some (.int .i64 0) ∧ (convert 22 9 (.slice (some ⟨g1, 0, none⟩) 8 c1)).run Tryz.prog w' = .ok (.string ⟨#[1, 0, 0, 0, 0, 0, 0, 0]⟩) w') (first | exact hcells) (first
          | (go_at_call 8; refine (stStateJ _).mono ?_; rintro e wr ⟨As, cs, rfl, os, Kr⟩; have hcs := cv_st (c := cs) (Rd.own os); have hkk := hkk.trans Kr (fun _ _ h => h); have hcells := sJ (c1 := c1) (HO.out.keeps hkk (fun _ _ h => h)) (HW1.out.keeps hkk (fun h => h)))
          | (go_at_call 7; refine (HT.out _).mono ?_; rintro e wt ⟨rfl, rfl⟩))
        all_goals
          go_wp2_with fail
          go_ret
          exact ⟨rfl, (hka.trans hkk (fun _ _ h => h)).below (Nat.le_refl _) (fun _ h => h.elim)⟩
theorem sB {w : World} {g g1 c1 : Nat} (h1 : Rd w 1 (some ⟨g1, 0, none⟩) 8 (Lib.byteCells [1, 0, 0, 0, 0, 0, 0, 0])) (h : Whole w g 24 #[.int .i64 3, .int .i64 0]) : w.cell? ⟨g, 0, none⟩ = some (.int .i64 3) ∧ w.cell? ⟨g, 0 + 1, none⟩ = some (.int .i64 0) ∧ (convert 22 9 (.slice (some ⟨g1, 0, none⟩) 8 c1)).run Tryz.prog w = .ok (.string ⟨#[1, 0, 0, 0, 0, 0, 0, 0]⟩) w := ⟨h.cell 0, h.cell 1, cv_st h1⟩
theorem cellsB {w : World} {g : Nat} (h : Whole w g 24 #[.int .i64 3, .int .i64 0]) : w.cell? ⟨g, 0, none⟩ = some (.int .i64 3) ∧ w.cell? ⟨g, 0 + 1, none⟩ = some (.int .i64 0) := ⟨h.cell 0, h.cell 1⟩
set_option maxRecDepth 100000 in
set_option maxHeartbeats 4000000 in
theorem stStateWalkB (w : World) (a : Int) (ha : 0 ≤ a) (hm : a % 2 = 1) (A : Option Addr) (n c : Nat) (d : List UInt8) (hl : d.length = n) (hR : Rd w 1 A n (Lib.byteCells d)) (hc : n ≤ c) (hn : n ≤ 9223372036854775807) :
    Calls Tryz.prog 3 #[.int .u8 a, .slice A n c] w fun e w' => e = .returned (.bool true) ∧ Below w.heap.size w w' := by
  have HT := Lib.hid (fun w => stTail w A n c hc hn)
  have hq : min n 40 ≤ 40 := by omega
  have hr : (d.take 40).length = min n 40 := by rw [List.length_take, hl]; omega
  have HR := Lib.hid (rd_first hR (k := min n 40) (by omega))
  rw [show d.take (min n 40) = d.take 40 by rw [← hl, List.take_eq_take_min, ← List.take_eq_take_min, Nat.min_comm, List.take_eq_take_min (i := 40)]] at HR
  generalize d.take 40 = t at *
  generalize hm2 : min n 40 = m at *
  clear hm2
  have HL := Lib.hid hr
  have HQ := Lib.hid hq
  clear hr hq
  have e1 : Int.tmod a 2 = 1 := by rw [Int.tmod_eq_emod_of_nonneg ha, hm]
  clear hR hl hc hn hm ha
  by_cases hb : 2147483647 < n
  · have h2 : ((2147483647 : Int) < (n : Int)) = True := by simp; omega
    clear hb
    go_enter Tryz.func3, Tryz.ntmps3
    go_wp2_with fail
    go_ret
    exact ⟨rfl, Below.refl _ _⟩
  · have h2 : ((2147483647 : Int) < (n : Int)) = False := by simp; omega
    clear hb
    go_enter Tryz.func3, Tryz.ntmps3
    go_wp2_with fail
    have HW0 := Lib.hid (Whole.new w 24 #[.int .i64 3, .int .i64 0])
    have HK0 := Lib.hid ((Keeps.refl (fun _ => False) w).alloc (.cells #[.int .i64 3, .int .i64 0] 24))
    refine (stNumber _ 1 8 (by decide) (by decide)).mono ?_
    rintro e w1 ⟨A1, c1, rfl, o1, K1, _⟩
    have HW1 := Lib.hid (HW0.out.keeps K1 (fun h => h))
    have hka := HK0.out.trans K1 (fun _ _ h => h)
    rw [leb1] at o1
    have HO1 := Lib.hid o1
    clear o1 K1
    obtain ⟨g1, c0, hA1, _, _⟩ := HO1.out.form (by decide)
    injection hA1 with hA1 _ hc1
    subst hA1 hc1
    obtain ⟨hc8, hx1⟩ := own_cap HO1.out (by decide)
    have HO := Lib.hid (Rd.own HO1.out)
    have hkk := (Keeps.refl (fun _ => False) w1).drew
    have hkb : Keeps (fun _ => False) w1 (w1.alloc (.cells #[.slice (some ⟨g1, 0, none⟩) 8 c1, .slice A m c] 22)).drew := ((Keeps.refl (fun _ => False) w1).alloc _).drew
    have hwb : Whole (w1.alloc (.cells #[.slice (some ⟨g1, 0, none⟩) 8 c1, .slice A m c] 22)).drew w1.heap.size 22 #[.slice (some ⟨g1, 0, none⟩) 8 c1, .slice A m c] := (Whole.new w1 _ _).keeps (S := fun _ => False) (Keeps.refl _ _).drew (fun h => h)
    have hcells : w1.drew.cell? ⟨w.heap.size, 0, none⟩ = some (.int .i64 3) ∧ w1.drew.cell? ⟨w.heap.size, 0 + 1, none⟩ = some (.int .i64 0) := ⟨(HW1.out.keeps hkk (fun h => h)).cell 0, (HW1.out.keeps hkk (fun h => h)).cell 1⟩
    go_wp2_with fail
    go_region_held3 (fun w' => w'.cell? ⟨w.heap.size, 0, none⟩ = some (.int .i64 3) ∧ w'.cell? ⟨w.heap.size, 0 + 1, none⟩ = some (.int .i64 0)) (first | exact hcells | exact cellsB (HW1.out.keeps hkb (fun h => h))) (first
      | (go_at_call 5; refine (stReadOkB _ Aj (8 + m) cj t (by rw [List.length_append, HL.out]; rfl) hrj hcj hxj).mono ?_; rintro e wr ⟨rfl, Kr⟩; rw [HL.out]; have hkk := hkk.trans Kr (fun _ _ h => h); have hcells := cellsB (HW1.out.keeps hkk (fun h => h)))
      | (go_at_call 6; refine (stJoinTwo _ w1.heap.size 22 (some ⟨g1, 0, none⟩) A 8 c1 m c [1, 0, 0, 0, 0, 0, 0, 0] t hwb (HO.out.keeps hkb (fun _ _ h => h)) (HR.out.keeps (hka.trans hkb (fun _ _ h => h)) (fun _ _ h => h)) (by have := HQ.out; omega)).mono ?_; rintro e wj ⟨Aj, cj, rfl, oj, Kj, _⟩; have hrj := Rd.own oj; obtain ⟨hcj, hxj⟩ := own_cap oj (by omega); have hkk := hkb.trans Kj (fun _ _ h => h); have hcells := cellsB (HW1.out.keeps hkk (fun h => h)))
      | (go_at_call 7; refine (HT.out _).mono ?_; rintro e wt ⟨rfl, rfl⟩))
    all_goals
      have HK5 := Lib.hid hkk
      have HR7 := Lib.hid (rd_first (HO.out.keeps hkk (fun _ _ h => h)) (k := 7) (by omega))
      rw [show ([1, 0, 0, 0, 0, 0, 0, 0] : List UInt8).take 7 = [1, 0, 0, 0, 0, 0, 0] from rfl] at HR7
      clear hcells hkk
      clear hcells hkk
      clear hcells hkk
      rename World => w2
      have hkk := (Keeps.refl (fun _ => False) w2).drew
      have hcells := cellsB (HW1.out.keeps (HK5.out.trans hkk (fun _ _ h => h)) (fun h => h))
      have h7 : (7 : Int) ≤ (c1 : Int) := by omega
      go_wp2_with fail
      go_region_held3 (fun w' => w'.cell? ⟨w.heap.size, 0, none⟩ = some (.int .i64 3) ∧ w'.cell? ⟨w.heap.size, 0 + 1, none⟩ = some (.int .i64 0)) (first | exact hcells) (
        (go_at_call 5; refine (stReadErrB _ (some ⟨g1, 0, none⟩) 7 c1 [1, 0, 0, 0, 0, 0, 0] (by decide) rfl (HR7.out.keeps hkk (fun _ _ h => h)) (by omega) (fun i hi => Nat.lt_of_lt_of_le (hx1 i hi) (HK5.out.trans hkk (fun _ _ h => h)).size)).mono ?_; rintro e wr ⟨rfl, Kr⟩; have hkk := hkk.trans Kr (fun _ _ h => h); have hcells := cellsB (HW1.out.keeps (HK5.out.trans hkk (fun _ _ h => h)) (fun h => h))))
      all_goals
        have HK6 := Lib.hid (HK5.out.trans hkk (fun _ _ h => h))
        clear hcells hkk
        clear hcells hkk
        clear HK5
        rename World => w3
        have hkk := (HK6.out.drew)
        have hcells := sB (c1 := c1) (HO.out.keeps hkk (fun _ _ h => h)) (HW1.out.keeps hkk (fun h => h))
        go_wp2_with fail
        rw [show Op.convert 22 9 (.tmp 38) = cvOp 22 9 (.tmp 38) from rfl]
        go_region_held3 (fun w' => w'.cell? ⟨w.heap.size, 0, none⟩ = some (.int .i64 3) ∧ w'.cell? ⟨w.heap.size, 0 + 1, none⟩ = some (.int .i64 0) ∧ (convert 22 9 (.slice (some ⟨g1, 0, none⟩) 8 c1)).run Tryz.prog w' = .ok (.string ⟨#[1, 0, 0, 0, 0, 0, 0, 0]⟩) w') (first | exact hcells) (first
          | (go_at_call 8; refine (stStateB _).mono ?_; rintro e wr ⟨As, cs, rfl, os, Kr⟩; have hcs := cv_st (c := cs) (Rd.own os); have hkk := hkk.trans Kr (fun _ _ h => h); have hcells := sB (c1 := c1) (HO.out.keeps hkk (fun _ _ h => h)) (HW1.out.keeps hkk (fun h => h)))
          | (go_at_call 7; refine (HT.out _).mono ?_; rintro e wt ⟨rfl, rfl⟩))
        all_goals
          go_wp2_with fail
          go_ret
          exact ⟨rfl, (hka.trans hkk (fun _ _ h => h)).below (Nat.le_refl _) (fun _ h => h.elim)⟩
end Go.Proofs.YtajgalokiobdlaaGreat
