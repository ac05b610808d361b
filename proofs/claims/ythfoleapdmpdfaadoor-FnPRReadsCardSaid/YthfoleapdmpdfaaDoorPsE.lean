/- The specification reads raw bytes from the front of some bytes. Conditions: its table of widths is laid. -/
import Derived.Test.YthfoleapdmpdfaaDoorPsD
namespace Go.Proofs.YthfoleapdmpdfaaDoor
open Go.RowKit Go.Lib
set_option linter.unusedVariables false
theorem rd_take {w : World} {A : Option Addr} {n k : Nat} {d : List UInt8} (h : Rd w 1 A n (Lib.byteCells d)) (hk : k ≤ n) : Rd w 1 A k (Lib.byteCells (d.take k)) := by
  have hl := h.1
  rw [Lib.byteCells_length, Nat.mul_one] at hl
  refine ⟨by rw [Lib.byteCells_length, List.length_take]; omega, fun h0 => ?_⟩
  obtain ⟨ad, h1, h2, h3⟩ := h.2 (by omega)
  refine ⟨ad, h1, h2, fun j u hu => h3 j u ?_⟩
  simp only [Lib.byteCells, List.getElem?_map] at hu ⊢
  obtain ⟨b, hb, rfl⟩ := Option.map_eq_some_iff.mp hu
  rw [List.getElem?_take] at hb
  split at hb
  · rw [hb]; rfl
  · cases hb
def gotS (A : Option Addr) (k c : Nat) (n : Int) : Ending := .returned (.tuple #[.agg #[.int .u64 0, .int .u64 0, .slice A k c, .bool false], .int .i64 n, .bool true])
def G4 (A : Option Addr) (w' : World) (d : List UInt8) (u : Nat) (e : Ending) : Prop := (d.length < u ∧ e = gotE 0) ∨ (u ≤ d.length ∧ ∃ c', e = gotS A u c' u ∧ Rd w' 1 A u (Lib.byteCells (d.take u)))
set_option maxRecDepth 100000 in
set_option maxHeartbeats 4000000 in
theorem rdG4 (w : World) (hW : WidthsV w) (A : Option Addr) (c : Nat) (d : List UInt8) (hdl : d.length ≤ 1000) (hR : Rd w 1 A d.length (Lib.byteCells d)) (op : Int) (h1 : 1 ≤ op) (h22 : op ≤ 22) (u : Nat) (v : Int) (P : Option Addr) (n cp : Nat) (h2 : op = 19) (hu : u ≤ 1000) (hc : d.length ≤ c) : Calls Tryd.prog 23 #[.slice A d.length c, .agg #[.int .i64 op, .int .u64 (u : Int), .int .u64 v, .slice P n cp]] w fun e w' => G4 A w' d u e ∧ Keeps (fun _ => False) w w' := by
  have hp0 := (Whole.new w 28 #[.int .i64 op, .int .u64 (u : Int), .int .u64 v, .slice P n cp]).alloc (.cells #[.int .u64 0, .int .u64 0, .slice none 0 0, .bool false] 34)
  have hr0 := Whole.new (w.alloc (.cells #[.int .i64 op, .int .u64 (u : Int), .int .u64 v, .slice P n cp] 28)) 34 #[.int .u64 0, .int .u64 0, .slice none 0 0, .bool false]
  rw [World.size_alloc] at hr0
  have K0 := ((Keeps.refl (fun _ => False) w).alloc (.cells #[.int .i64 op, .int .u64 (u : Int), .int .u64 v, .slice P n cp] 28)).alloc (.cells #[.int .u64 0, .int .u64 0, .slice none 0 0, .bool false] 34)
  have HPW := Lib.hid (prWidth _ (hW.new K0) op h1 h22)
  have HP := Lib.hid hp0
  have HR0 := Lib.hid hr0
  have HK0 := Lib.hid K0
  have HRD := Lib.hid hR
  subst h2
  rw [show wd 19 = 0 by decide] at HPW
  have c1 : IntKind.i64.wrap (u : Int) = (u : Int) := by rw [IntKind.wrap_i64]; omega
  obtain ⟨m, hm⟩ : ∃ m, m = d.length := ⟨_, rfl⟩
  have HM := Lib.hid hm
  rw [← hm] at hc ⊢
  clear hm hR K0 hp0 hr0 hdl
  by_cases hl : (m : Int) < (u : Int)
  · go_enter Tryd.func23, Tryd.ntmps23
    go_wp2_with fail
    refine HPW.out.mono ?_
    rintro e w1 ⟨rfl, rfl⟩
    have hp := HP.out
    have hr := HR0.out
    have kk := HK0.out
    have p0 : ((w.alloc (.cells #[.int .i64 19, .int .u64 (u : Int), .int .u64 v, .slice P n cp] 28)).alloc (.cells #[.int .u64 0, .int .u64 0, .slice none 0 0, .bool false] 34)).cell? ⟨w.heap.size, 0, none⟩ = some (.int .i64 19) := hp.cell 0
    have p1 : ((w.alloc (.cells #[.int .i64 19, .int .u64 (u : Int), .int .u64 v, .slice P n cp] 28)).alloc (.cells #[.int .u64 0, .int .u64 0, .slice none 0 0, .bool false] 34)).cell? ⟨w.heap.size, 1, none⟩ = some (.int .u64 (u : Int)) := hp.cell 1
    have p2 : ((w.alloc (.cells #[.int .i64 19, .int .u64 (u : Int), .int .u64 v, .slice P n cp] 28)).alloc (.cells #[.int .u64 0, .int .u64 0, .slice none 0 0, .bool false] 34)).cell? ⟨w.heap.size, 2, none⟩ = some (.int .u64 v) := hp.cell 2
    have p3 : ((w.alloc (.cells #[.int .i64 19, .int .u64 (u : Int), .int .u64 v, .slice P n cp] 28)).alloc (.cells #[.int .u64 0, .int .u64 0, .slice none 0 0, .bool false] 34)).cell? ⟨w.heap.size, 3, none⟩ = some (.slice P n cp) := hp.cell 3
    have q0 : ((w.alloc (.cells #[.int .i64 19, .int .u64 (u : Int), .int .u64 v, .slice P n cp] 28)).alloc (.cells #[.int .u64 0, .int .u64 0, .slice none 0 0, .bool false] 34)).cell? ⟨w.heap.size + 1, 0, none⟩ = some (.int .u64 0) := hr.cell 0
    have qz0 : ((w.alloc (.cells #[.int .i64 19, .int .u64 (u : Int), .int .u64 v, .slice P n cp] 28)).alloc (.cells #[.int .u64 0, .int .u64 0, .slice none 0 0, .bool false] 34)).frozen? ⟨w.heap.size + 1, 0, none⟩ = false := hr.frozen 0
    have q1 : ((w.alloc (.cells #[.int .i64 19, .int .u64 (u : Int), .int .u64 v, .slice P n cp] 28)).alloc (.cells #[.int .u64 0, .int .u64 0, .slice none 0 0, .bool false] 34)).cell? ⟨w.heap.size + 1, 1, none⟩ = some (.int .u64 0) := hr.cell 1
    have qz1 : ((w.alloc (.cells #[.int .i64 19, .int .u64 (u : Int), .int .u64 v, .slice P n cp] 28)).alloc (.cells #[.int .u64 0, .int .u64 0, .slice none 0 0, .bool false] 34)).frozen? ⟨w.heap.size + 1, 1, none⟩ = false := hr.frozen 1
    have q2 : ((w.alloc (.cells #[.int .i64 19, .int .u64 (u : Int), .int .u64 v, .slice P n cp] 28)).alloc (.cells #[.int .u64 0, .int .u64 0, .slice none 0 0, .bool false] 34)).cell? ⟨w.heap.size + 1, 2, none⟩ = some (.slice none 0 0) := hr.cell 2
    have qz2 : ((w.alloc (.cells #[.int .i64 19, .int .u64 (u : Int), .int .u64 v, .slice P n cp] 28)).alloc (.cells #[.int .u64 0, .int .u64 0, .slice none 0 0, .bool false] 34)).frozen? ⟨w.heap.size + 1, 2, none⟩ = false := hr.frozen 2
    have q3 : ((w.alloc (.cells #[.int .i64 19, .int .u64 (u : Int), .int .u64 v, .slice P n cp] 28)).alloc (.cells #[.int .u64 0, .int .u64 0, .slice none 0 0, .bool false] 34)).cell? ⟨w.heap.size + 1, 3, none⟩ = some (.bool false) := hr.cell 3
    have qz3 : ((w.alloc (.cells #[.int .i64 19, .int .u64 (u : Int), .int .u64 v, .slice P n cp] 28)).alloc (.cells #[.int .u64 0, .int .u64 0, .slice none 0 0, .bool false] 34)).frozen? ⟨w.heap.size + 1, 3, none⟩ = false := hr.frozen 3
    have pl := hp.lt
    have ql := hr.lt
    have hne : w.heap.size ≠ w.heap.size + 1 := by omega
    clear hp
    go_wp2_with fail
    have r1 := Whole.new (w.alloc (.cells #[.int .i64 19, .int .u64 (u : Int), .int .u64 v, .slice P n cp] 28)) 34 #[.int .u64 0, .int .u64 0, .slice none 0 0, .bool true]
    rw [World.size_alloc] at r1
    have hld := run_loadVar_row (P := Tryd.prog) _ (w.heap.size + 1) 34 34 _ (0, 0) _ r1 Tryd.underlying34 rfl infoGot
    have kn := ((Keeps.refl (fun _ => False) w).alloc (.cells #[.int .i64 19, .int .u64 (u : Int), .int .u64 v, .slice P n cp] 28)).alloc (.cells #[.int .u64 0, .int .u64 0, .slice none 0 0, .bool true] 34)
    exact bodyPost_ret (results_cell3 rfl _ ⟨w.heap.size + 1, 0, none⟩ _ _ rfl hld) rfl ⟨.inl ⟨by have := HM.out; omega, rfl⟩, kn⟩
  · have i1 : (u : Int) ≤ (c : Int) := by omega
    have i0 : (0 : Int) ≤ (u : Int) := by omega
    go_enter Tryd.func23, Tryd.ntmps23
    go_wp2_with fail
    refine HPW.out.mono ?_
    rintro e w1 ⟨rfl, rfl⟩
    have hp := HP.out
    have hr := HR0.out
    have kk := HK0.out
    have p0 : ((w.alloc (.cells #[.int .i64 19, .int .u64 (u : Int), .int .u64 v, .slice P n cp] 28)).alloc (.cells #[.int .u64 0, .int .u64 0, .slice none 0 0, .bool false] 34)).cell? ⟨w.heap.size, 0, none⟩ = some (.int .i64 19) := hp.cell 0
    have p1 : ((w.alloc (.cells #[.int .i64 19, .int .u64 (u : Int), .int .u64 v, .slice P n cp] 28)).alloc (.cells #[.int .u64 0, .int .u64 0, .slice none 0 0, .bool false] 34)).cell? ⟨w.heap.size, 1, none⟩ = some (.int .u64 (u : Int)) := hp.cell 1
    have p2 : ((w.alloc (.cells #[.int .i64 19, .int .u64 (u : Int), .int .u64 v, .slice P n cp] 28)).alloc (.cells #[.int .u64 0, .int .u64 0, .slice none 0 0, .bool false] 34)).cell? ⟨w.heap.size, 2, none⟩ = some (.int .u64 v) := hp.cell 2
    have p3 : ((w.alloc (.cells #[.int .i64 19, .int .u64 (u : Int), .int .u64 v, .slice P n cp] 28)).alloc (.cells #[.int .u64 0, .int .u64 0, .slice none 0 0, .bool false] 34)).cell? ⟨w.heap.size, 3, none⟩ = some (.slice P n cp) := hp.cell 3
    have q0 : ((w.alloc (.cells #[.int .i64 19, .int .u64 (u : Int), .int .u64 v, .slice P n cp] 28)).alloc (.cells #[.int .u64 0, .int .u64 0, .slice none 0 0, .bool false] 34)).cell? ⟨w.heap.size + 1, 0, none⟩ = some (.int .u64 0) := hr.cell 0
    have qz0 : ((w.alloc (.cells #[.int .i64 19, .int .u64 (u : Int), .int .u64 v, .slice P n cp] 28)).alloc (.cells #[.int .u64 0, .int .u64 0, .slice none 0 0, .bool false] 34)).frozen? ⟨w.heap.size + 1, 0, none⟩ = false := hr.frozen 0
    have q1 : ((w.alloc (.cells #[.int .i64 19, .int .u64 (u : Int), .int .u64 v, .slice P n cp] 28)).alloc (.cells #[.int .u64 0, .int .u64 0, .slice none 0 0, .bool false] 34)).cell? ⟨w.heap.size + 1, 1, none⟩ = some (.int .u64 0) := hr.cell 1
    have qz1 : ((w.alloc (.cells #[.int .i64 19, .int .u64 (u : Int), .int .u64 v, .slice P n cp] 28)).alloc (.cells #[.int .u64 0, .int .u64 0, .slice none 0 0, .bool false] 34)).frozen? ⟨w.heap.size + 1, 1, none⟩ = false := hr.frozen 1
    have q2 : ((w.alloc (.cells #[.int .i64 19, .int .u64 (u : Int), .int .u64 v, .slice P n cp] 28)).alloc (.cells #[.int .u64 0, .int .u64 0, .slice none 0 0, .bool false] 34)).cell? ⟨w.heap.size + 1, 2, none⟩ = some (.slice none 0 0) := hr.cell 2
    have qz2 : ((w.alloc (.cells #[.int .i64 19, .int .u64 (u : Int), .int .u64 v, .slice P n cp] 28)).alloc (.cells #[.int .u64 0, .int .u64 0, .slice none 0 0, .bool false] 34)).frozen? ⟨w.heap.size + 1, 2, none⟩ = false := hr.frozen 2
    have q3 : ((w.alloc (.cells #[.int .i64 19, .int .u64 (u : Int), .int .u64 v, .slice P n cp] 28)).alloc (.cells #[.int .u64 0, .int .u64 0, .slice none 0 0, .bool false] 34)).cell? ⟨w.heap.size + 1, 3, none⟩ = some (.bool false) := hr.cell 3
    have qz3 : ((w.alloc (.cells #[.int .i64 19, .int .u64 (u : Int), .int .u64 v, .slice P n cp] 28)).alloc (.cells #[.int .u64 0, .int .u64 0, .slice none 0 0, .bool false] 34)).frozen? ⟨w.heap.size + 1, 3, none⟩ = false := hr.frozen 3
    have pl := hp.lt
    have ql := hr.lt
    have hne : w.heap.size ≠ w.heap.size + 1 := by omega
    clear hp
    go_wp2_with fail
    have r1 := Whole.new (w.alloc (.cells #[.int .i64 19, .int .u64 (u : Int), .int .u64 v, .slice P n cp] 28)) 34 #[.int .u64 0, .int .u64 0, .slice A u c, .bool false]
    rw [World.size_alloc] at r1
    have hld := run_loadVar_row (P := Tryd.prog) _ (w.heap.size + 1) 34 34 _ (0, 0) _ r1 Tryd.underlying34 rfl infoGot
    have kn := ((Keeps.refl (fun _ => False) w).alloc (.cells #[.int .i64 19, .int .u64 (u : Int), .int .u64 v, .slice P n cp] 28)).alloc (.cells #[.int .u64 0, .int .u64 0, .slice A u c, .bool false] 34)
    exact bodyPost_ret (results_cell3 rfl _ ⟨w.heap.size + 1, 0, none⟩ _ _ rfl hld) rfl ⟨.inr ⟨by have := HM.out; omega, c, rfl, (rd_take HRD.out (by have := HM.out; omega)).keeps kn (fun _ _ h => h)⟩, kn⟩
end Go.Proofs.YthfoleapdmpdfaaDoor
