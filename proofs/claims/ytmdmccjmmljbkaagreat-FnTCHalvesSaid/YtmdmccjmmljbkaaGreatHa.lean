/- Columns of wide numbers: sizes, words of a row, values of a row. Conditions: lengths that a slice can have. -/
import Derived.Test.YtmdmccjmmljbkaaGreatMem
import Derived.Test.YtmdmccjmmljbkaaGreatRc1
import Derived.Test.YtmdmccjmmljbkaaGreatChecked
import Derived.Laws.Rows
import Derived.Laws.EntriesVeiled
namespace Go.Proofs.YtmdmccjmmljbkaaGreat
open Go.RowKit Go.Lib
set_option linter.unusedVariables false
/-- Words of 64 bits. -/
def qw (xs : List Nat) : List Value := xs.map fun x : Nat => .int .u64 (x : Int)
theorem tcSize9 (w : World) : Calls Tryz.prog 12 #[.int .i64 9] w fun e w' => e = .returned (.int .i64 8) ∧ w = w' := by
  go_enter Tryz.func12, Tryz.ntmps12
  go_wp2_with fail
  go_ret
  exact ⟨rfl, rfl⟩
theorem tcWords9 (w : World) : Calls Tryz.prog 11 #[.int .i64 9] w fun e w' => e = .returned (.int .i64 1) ∧ w = w' := by
  have HS := Lib.hid (tcSize9 w)
  go_enter Tryz.func11, Tryz.ntmps11
  go_wp2_with fail
  refine HS.out.mono ?_
  rintro e w1 ⟨rfl, rfl⟩
  go_wp2_with fail
  go_ret
  exact ⟨rfl, rfl⟩
theorem tcSize10 (w : World) : Calls Tryz.prog 12 #[.int .i64 10] w fun e w' => e = .returned (.int .i64 16) ∧ w = w' := by
  go_enter Tryz.func12, Tryz.ntmps12
  go_wp2_with fail
  go_ret
  exact ⟨rfl, rfl⟩
theorem tcWords10 (w : World) : Calls Tryz.prog 11 #[.int .i64 10] w fun e w' => e = .returned (.int .i64 2) ∧ w = w' := by
  have HS := Lib.hid (tcSize10 w)
  go_enter Tryz.func11, Tryz.ntmps11
  go_wp2_with fail
  refine HS.out.mono ?_
  rintro e w1 ⟨rfl, rfl⟩
  go_wp2_with fail
  go_ret
  exact ⟨rfl, rfl⟩
theorem tcSize11 (w : World) : Calls Tryz.prog 12 #[.int .i64 11] w fun e w' => e = .returned (.int .i64 32) ∧ w = w' := by
  go_enter Tryz.func12, Tryz.ntmps12
  go_wp2_with fail
  go_ret
  exact ⟨rfl, rfl⟩
theorem tcWords11 (w : World) : Calls Tryz.prog 11 #[.int .i64 11] w fun e w' => e = .returned (.int .i64 4) ∧ w = w' := by
  have HS := Lib.hid (tcSize11 w)
  go_enter Tryz.func11, Tryz.ntmps11
  go_wp2_with fail
  refine HS.out.mono ?_
  rintro e w1 ⟨rfl, rfl⟩
  go_wp2_with fail
  go_ret
  exact ⟨rfl, rfl⟩
set_option maxRecDepth 100000 in
set_option maxHeartbeats 2000000 in
theorem tWord (w : World) (A : Option Addr) (n c i : Nat) (xs : List Nat) (hl : xs.length = n) (hR : Rd w 1 A n (qw xs)) : Calls Tryz.prog 14 #[.slice A n c, .int .i64 (i : Int)] w fun e w' => e = .returned (.int .u64 ((xs.getD i 0 : Nat) : Int)) ∧ w = w' := by
  have hi0 : (0 : Int) ≤ (i : Int) := by omega
  by_cases h : i < n
  · obtain ⟨ad, u, rfl, hb, hu, hc⟩ := hR.at' h
    obtain ⟨x, hx⟩ : ∃ x, xs[i]? = some x := ⟨_, List.getElem?_eq_getElem (by rw [hl]; exact h)⟩
    obtain rfl : u = .int .u64 (x : Int) := by
      rw [qw, List.getElem?_map, hx] at hu
      injection hu with hu
      exact hu.symm
    rw [show xs.getD i 0 = x by simp [hx]]
    have h2 : (i : Int) < (n : Int) := by omega
    clear hu hx hR hl
    go_enter Tryz.func14, Tryz.ntmps14
    go_wp2_with fail
    go_ret
    exact ⟨rfl, rfl⟩
  · rw [show xs.getD i 0 = 0 by rw [List.getD, List.getElem?_eq_none (by omega)]; rfl]
    have h2 : ¬ (i : Int) < (n : Int) := by omega
    clear hR hl
    go_enter Tryz.func14, Tryz.ntmps14
    go_wp2_with fail
    go_ret
    exact ⟨rfl, rfl⟩
theorem infoU128 : (Tryz.prog.info? 146).map (·.size) = some 2 := by kernel_rfl
theorem infoD128 : (Tryz.prog.info? 142).map (·.size) = some 2 := by kernel_rfl
theorem infoD256 : (Tryz.prog.info? 152).map (·.size) = some 4 := by kernel_rfl
set_option maxRecDepth 100000 in
set_option maxHeartbeats 2000000 in
theorem tHalf (w : World) (A : Option Addr) (n c i : Nat) (xs : List Nat) (hl : xs.length = n) (hR : Rd w 1 A n (qw xs)) (hi : i ≤ 1000) : Calls Tryz.prog 57 #[.slice A n c, .int .i64 (i : Int)] w fun e w' => e = .returned (.agg #[.int .u64 ((xs.getD i 0 : Nat) : Int), .int .u64 ((xs.getD (i + 1) 0 : Nat) : Int)]) ∧ Keeps (fun _ => False) w w' := by
  have K0 := (Keeps.refl (fun _ => False) w).alloc (.cells #[.int .u64 0, .int .u64 0] 146)
  have H1 := Lib.hid (tWord _ A n c i xs hl (hR.keeps K0 (fun _ _ h => h)))
  have H2 := Lib.hid (tWord _ A n c (i + 1) xs hl (hR.keeps K0 (fun _ _ h => h)))
  have hw := Whole.new w 146 #[.int .u64 0, .int .u64 0]
  clear hR hl
  generalize xs.getD i 0 = x at *
  generalize xs.getD (i + 1) 0 = y at *
  go_enter Tryz.func57, Tryz.ntmps57
  go_wp2_with fail
  refine H1.out.mono ?_
  rintro e w1 ⟨rfl, rfl⟩
  go_wp2_with fail
  refine H2.out.mono ?_
  rintro e w2 ⟨rfl, rfl⟩
  go_wp2_with fail
  have r1 := Whole.new w 146 #[.int .u64 (x : Int), .int .u64 (y : Int)]
  have hld := run_loadVar_row (P := Tryz.prog) _ w.heap.size 146 146 _ (0, 0) _ r1 Tryz.underlying146 rfl infoU128
  exact bodyPost_ret (results_cell1 rfl _ ⟨w.heap.size, 0, none⟩ _ _ rfl hld) rfl ⟨rfl, (Keeps.refl (fun _ => False) w).alloc _⟩
set_option maxRecDepth 100000 in
set_option maxHeartbeats 2000000 in
theorem tIn9 (w : World) (A : Option Addr) (n c : Nat) (xs : List Nat) (hl : xs.length = n) (hR : Rd w 1 A n (qw xs)) : Calls Tryz.prog 53 #[.slice A n c] w fun e w' => e = .returned (.int .i64 (IntKind.i64.wrap ((xs.getD 0 0 : Nat) : Int))) ∧ Keeps (fun _ => False) w w' := by
  have H1 := Lib.hid (tWord w A n c 0 xs hl hR)
  clear hR hl
  generalize xs.getD 0 0 = x at *
  obtain ⟨y, hy⟩ : ∃ y, IntKind.i64.wrap (x : Int) = y := ⟨_, rfl⟩
  rw [hy]
  go_enter Tryz.func53, Tryz.ntmps53
  go_wp2_with fail
  refine H1.out.mono ?_
  rintro e w1 ⟨rfl, rfl⟩
  go_wp2_with fail
  go_ret
  exact ⟨rfl, Keeps.refl _ _⟩
set_option maxRecDepth 100000 in
set_option maxHeartbeats 2000000 in
theorem tIn10 (w : World) (A : Option Addr) (n c : Nat) (xs : List Nat) (hl : xs.length = n) (hR : Rd w 1 A n (qw xs)) : Calls Tryz.prog 56 #[.slice A n c] w fun e w' => e = .returned (.agg #[.int .u64 ((xs.getD 0 0 : Nat) : Int), .int .u64 ((xs.getD 1 0 : Nat) : Int)]) ∧ Keeps (fun _ => False) w w' := by
  have K0 := (Keeps.refl (fun _ => False) w).alloc (.cells #[.int .u64 0, .int .u64 0] 142)
  have H1 := Lib.hid (tHalf _ A n c 0 xs hl (hR.keeps K0 (fun _ _ h => h)) (by omega))
  have hw := Whole.new w 142 #[.int .u64 0, .int .u64 0]
  have HK0 := Lib.hid K0
  clear hR hl K0
  rw [show (0 : Nat) + 1 = 1 from rfl] at H1
  generalize xs.getD 0 0 = x at *
  generalize xs.getD 1 0 = y at *
  go_enter Tryz.func56, Tryz.ntmps56
  go_wp2_with fail
  refine H1.out.mono ?_
  rintro e w1 ⟨rfl, K1⟩
  have hw1 := hw.keeps K1 (fun h => h)
  have HK1 := Lib.hid (HK0.out.trans K1 (fun _ _ h => h))
  have c0 : w1.cell? ⟨w.heap.size, 0, none⟩ = some (.int .u64 0) := hw1.cell 0
  have c1 : w1.cell? ⟨w.heap.size, 1, none⟩ = some (.int .u64 0) := hw1.cell 1
  have f0 : w1.frozen? ⟨w.heap.size, 0, none⟩ = false := hw1.frozen 0
  have f1 : w1.frozen? ⟨w.heap.size, 1, none⟩ = false := hw1.frozen 1
  have hl1 := hw1.lt
  have HW1 := Lib.hid hw1
  clear K1 hw hw1
  go_wp2_with fail
  have r1 := (HW1.out.put 0 (.int .u64 (x : Int))).put 1 (.int .u64 (y : Int))
  have hld := run_loadVar_row (P := Tryz.prog) _ w.heap.size 142 142 _ (0, 0) _ r1 Tryz.underlying142 rfl infoD128
  exact bodyPost_ret (results_cell1 rfl _ ⟨w.heap.size, 0, none⟩ _ _ rfl hld) rfl ⟨rfl, (HK1.out.setCell (p := ⟨w.heap.size, 0, none⟩) (.inr (Nat.le_refl _)) _).setCell (p := ⟨w.heap.size, 1, none⟩) (.inr (Nat.le_refl _)) _⟩
set_option maxRecDepth 100000 in
set_option maxHeartbeats 2000000 in
theorem tIn11 (w : World) (A : Option Addr) (n c : Nat) (xs : List Nat) (hl : xs.length = n) (hR : Rd w 1 A n (qw xs)) : Calls Tryz.prog 60 #[.slice A n c] w fun e w' => e = .returned (.agg #[.int .u64 ((xs.getD 0 0 : Nat) : Int), .int .u64 ((xs.getD 1 0 : Nat) : Int), .int .u64 ((xs.getD 2 0 : Nat) : Int), .int .u64 ((xs.getD 3 0 : Nat) : Int)]) ∧ Keeps (fun _ => False) w w' := by
  have K0 := (Keeps.refl (fun _ => False) w).alloc (.cells #[.int .u64 0, .int .u64 0, .int .u64 0, .int .u64 0] 152)
  have H1 := Lib.hid (tHalf _ A n c 0 xs hl (hR.keeps K0 (fun _ _ h => h)) (by omega))
  have H2 := Lib.hid (fun (W : World) (k : Keeps (fun _ => False) w W) => tHalf W A n c 2 xs hl (hR.keeps k (fun _ _ h => h)) (by omega))
  have hw := Whole.new w 152 #[.int .u64 0, .int .u64 0, .int .u64 0, .int .u64 0]
  have HK0 := Lib.hid K0
  clear hR hl K0
  rw [show (0 : Nat) + 1 = 1 from rfl] at H1
  rw [show (2 : Nat) + 1 = 3 from rfl] at H2
  generalize xs.getD 0 0 = x at *
  generalize xs.getD 1 0 = y at *
  generalize xs.getD 2 0 = z at *
  generalize xs.getD 3 0 = u at *
  go_enter Tryz.func60, Tryz.ntmps60
  go_wp2_with fail
  refine H1.out.mono ?_
  rintro e w1 ⟨rfl, K1⟩
  have hw1 := hw.keeps K1 (fun h => h)
  have HK1 := Lib.hid (HK0.out.trans K1 (fun _ _ h => h))
  clear K1 hw
  go_wp2_with fail
  refine (H2.out w1 HK1.out).mono ?_
  rintro e w2 ⟨rfl, K2⟩
  have hw2 := hw1.keeps K2 (fun h => h)
  have HK2 := Lib.hid (HK1.out.trans K2 (fun _ _ h => h))
  have c0 : w2.cell? ⟨w.heap.size, 0, none⟩ = some (.int .u64 0) := hw2.cell 0
  have c1 : w2.cell? ⟨w.heap.size, 1, none⟩ = some (.int .u64 0) := hw2.cell 1
  have c2 : w2.cell? ⟨w.heap.size, 2, none⟩ = some (.int .u64 0) := hw2.cell 2
  have c3 : w2.cell? ⟨w.heap.size, 3, none⟩ = some (.int .u64 0) := hw2.cell 3
  have f0 : w2.frozen? ⟨w.heap.size, 0, none⟩ = false := hw2.frozen 0
  have f1 : w2.frozen? ⟨w.heap.size, 1, none⟩ = false := hw2.frozen 1
  have f2 : w2.frozen? ⟨w.heap.size, 2, none⟩ = false := hw2.frozen 2
  have f3 : w2.frozen? ⟨w.heap.size, 3, none⟩ = false := hw2.frozen 3
  have hl2 := hw2.lt
  have HW2 := Lib.hid hw2
  clear K2 hw1 hw2
  go_wp2_with fail
  have r1 := (((HW2.out.put 0 (.int .u64 (x : Int))).put 1 (.int .u64 (y : Int))).put 2 (.int .u64 (z : Int))).put 3 (.int .u64 (u : Int))
  have hld := run_loadVar_row (P := Tryz.prog) _ w.heap.size 152 152 _ (0, 0) _ r1 Tryz.underlying152 rfl infoD256
  exact bodyPost_ret (results_cell1 rfl _ ⟨w.heap.size, 0, none⟩ _ _ rfl hld) rfl ⟨rfl, (((HK2.out.setCell (p := ⟨w.heap.size, 0, none⟩) (.inr (Nat.le_refl _)) _).setCell (p := ⟨w.heap.size, 1, none⟩) (.inr (Nat.le_refl _)) _).setCell (p := ⟨w.heap.size, 2, none⟩) (.inr (Nat.le_refl _)) _).setCell (p := ⟨w.heap.size, 3, none⟩) (.inr (Nat.le_refl _)) _⟩
theorem infoTC : (Tryz.prog.info? 39).map (·.size) = some 4 := by kernel_rfl
/-- The column of kind 9 that lies at g, its closures' variables at b. -/
abbrev tcv9 (g b : Nat) : Value := .agg #[.iface 135 (.pointer (some ⟨g, 0, none⟩)), .func (.func 72) #[] #[.pointer (some ⟨b, 0, none⟩), .pointer (some ⟨b + 1, 0, none⟩)], .func (.func 73) #[] #[.pointer (some ⟨b + 2, 0, none⟩), .pointer (some ⟨b, 0, none⟩)], .func (.func 74) #[] #[.pointer (some ⟨b + 1, 0, none⟩), .pointer (some ⟨b, 0, none⟩)]]
set_option maxRecDepth 100000 in
set_option maxHeartbeats 2000000 in
theorem tOf9 (w : World) (g : Nat) : Calls Tryz.prog 52 #[.iface 135 (.pointer (some ⟨g, 0, none⟩)), .func (.func 53) #[] #[], .func (.func 54) #[] #[]] w fun e w' => e = .returned (tcv9 g w.heap.size) ∧ Keeps (fun _ => False) w w' ∧ w'.cell? ⟨w.heap.size, 0, none⟩ = some (.iface 135 (.pointer (some ⟨g, 0, none⟩))) ∧ w'.cell? ⟨w.heap.size + 1, 0, none⟩ = some (.func (.func 53) #[] #[]) := by
  go_enter Tryz.func52, Tryz.ntmps52
  go_wp2_with fail
  have K := (((Keeps.refl (fun _ => False) w).alloc (.cells #[.iface 135 (.pointer (some ⟨g, 0, none⟩))] 179)).alloc (.cells #[.func (.func 53) #[] #[]] 138)).alloc (.cells #[.func (.func 54) #[] #[]] 139)
  have r0 := ((Whole.new w 179 #[.iface 135 (.pointer (some ⟨g, 0, none⟩))]).alloc (.cells #[.func (.func 53) #[] #[]] 138)).alloc (.cells #[.func (.func 54) #[] #[]] 139)
  have r1 := (Whole.new (w.alloc (.cells #[.iface 135 (.pointer (some ⟨g, 0, none⟩))] 179)) 138 #[.func (.func 53) #[] #[]]).alloc (.cells #[.func (.func 54) #[] #[]] 139)
  have r3 := Whole.new (((w.alloc (.cells #[.iface 135 (.pointer (some ⟨g, 0, none⟩))] 179)).alloc (.cells #[.func (.func 53) #[] #[]] 138)).alloc (.cells #[.func (.func 54) #[] #[]] 139)) 39 #[.iface 135 (.pointer (some ⟨g, 0, none⟩)), .func (.func 72) #[] #[.pointer (some ⟨w.heap.size, 0, none⟩), .pointer (some ⟨w.heap.size + 1, 0, none⟩)], .func (.func 73) #[] #[.pointer (some ⟨w.heap.size + 2, 0, none⟩), .pointer (some ⟨w.heap.size, 0, none⟩)], .func (.func 74) #[] #[.pointer (some ⟨w.heap.size + 1, 0, none⟩), .pointer (some ⟨w.heap.size, 0, none⟩)]]
  simp only [World.size_alloc] at r1 r3
  have hld := run_loadVar_row (P := Tryz.prog) _ (w.heap.size + 1 + 1 + 1) 39 39 _ (0, 0) _ r3 Tryz.underlying39 rfl infoTC
  exact bodyPost_ret (results_cell1 rfl _ ⟨w.heap.size + 1 + 1 + 1, 0, none⟩ _ _ rfl hld) rfl ⟨rfl, K.alloc _, (r0.alloc _).cell 0, (r1.alloc _).cell 0⟩
/-- The column of kind 10 that lies at g, its closures' variables at b. -/
abbrev tcv10 (g b : Nat) : Value := .agg #[.iface 143 (.pointer (some ⟨g, 0, none⟩)), .func (.func 75) #[] #[.pointer (some ⟨b, 0, none⟩), .pointer (some ⟨b + 1, 0, none⟩)], .func (.func 76) #[] #[.pointer (some ⟨b + 2, 0, none⟩), .pointer (some ⟨b, 0, none⟩)], .func (.func 77) #[] #[.pointer (some ⟨b + 1, 0, none⟩), .pointer (some ⟨b, 0, none⟩)]]
set_option maxRecDepth 100000 in
set_option maxHeartbeats 2000000 in
theorem tOf10 (w : World) (g : Nat) : Calls Tryz.prog 55 #[.iface 143 (.pointer (some ⟨g, 0, none⟩)), .func (.func 56) #[] #[], .func (.func 58) #[] #[]] w fun e w' => e = .returned (tcv10 g w.heap.size) ∧ Keeps (fun _ => False) w w' ∧ w'.cell? ⟨w.heap.size, 0, none⟩ = some (.iface 143 (.pointer (some ⟨g, 0, none⟩))) ∧ w'.cell? ⟨w.heap.size + 1, 0, none⟩ = some (.func (.func 56) #[] #[]) := by
  go_enter Tryz.func55, Tryz.ntmps55
  go_wp2_with fail
  have K := (((Keeps.refl (fun _ => False) w).alloc (.cells #[.iface 143 (.pointer (some ⟨g, 0, none⟩))] 184)).alloc (.cells #[.func (.func 56) #[] #[]] 148)).alloc (.cells #[.func (.func 58) #[] #[]] 149)
  have r0 := ((Whole.new w 184 #[.iface 143 (.pointer (some ⟨g, 0, none⟩))]).alloc (.cells #[.func (.func 56) #[] #[]] 148)).alloc (.cells #[.func (.func 58) #[] #[]] 149)
  have r1 := (Whole.new (w.alloc (.cells #[.iface 143 (.pointer (some ⟨g, 0, none⟩))] 184)) 148 #[.func (.func 56) #[] #[]]).alloc (.cells #[.func (.func 58) #[] #[]] 149)
  have r3 := Whole.new (((w.alloc (.cells #[.iface 143 (.pointer (some ⟨g, 0, none⟩))] 184)).alloc (.cells #[.func (.func 56) #[] #[]] 148)).alloc (.cells #[.func (.func 58) #[] #[]] 149)) 39 #[.iface 143 (.pointer (some ⟨g, 0, none⟩)), .func (.func 75) #[] #[.pointer (some ⟨w.heap.size, 0, none⟩), .pointer (some ⟨w.heap.size + 1, 0, none⟩)], .func (.func 76) #[] #[.pointer (some ⟨w.heap.size + 2, 0, none⟩), .pointer (some ⟨w.heap.size, 0, none⟩)], .func (.func 77) #[] #[.pointer (some ⟨w.heap.size + 1, 0, none⟩), .pointer (some ⟨w.heap.size, 0, none⟩)]]
  simp only [World.size_alloc] at r1 r3
  have hld := run_loadVar_row (P := Tryz.prog) _ (w.heap.size + 1 + 1 + 1) 39 39 _ (0, 0) _ r3 Tryz.underlying39 rfl infoTC
  exact bodyPost_ret (results_cell1 rfl _ ⟨w.heap.size + 1 + 1 + 1, 0, none⟩ _ _ rfl hld) rfl ⟨rfl, K.alloc _, (r0.alloc _).cell 0, (r1.alloc _).cell 0⟩
/-- The column of kind 11 that lies at g, its closures' variables at b. -/
abbrev tcv11 (g b : Nat) : Value := .agg #[.iface 153 (.pointer (some ⟨g, 0, none⟩)), .func (.func 78) #[] #[.pointer (some ⟨b, 0, none⟩), .pointer (some ⟨b + 1, 0, none⟩)], .func (.func 79) #[] #[.pointer (some ⟨b + 2, 0, none⟩), .pointer (some ⟨b, 0, none⟩)], .func (.func 80) #[] #[.pointer (some ⟨b + 1, 0, none⟩), .pointer (some ⟨b, 0, none⟩)]]
set_option maxRecDepth 100000 in
set_option maxHeartbeats 2000000 in
theorem tOf11 (w : World) (g : Nat) : Calls Tryz.prog 59 #[.iface 153 (.pointer (some ⟨g, 0, none⟩)), .func (.func 60) #[] #[], .func (.func 61) #[] #[]] w fun e w' => e = .returned (tcv11 g w.heap.size) ∧ Keeps (fun _ => False) w w' ∧ w'.cell? ⟨w.heap.size, 0, none⟩ = some (.iface 153 (.pointer (some ⟨g, 0, none⟩))) ∧ w'.cell? ⟨w.heap.size + 1, 0, none⟩ = some (.func (.func 60) #[] #[]) := by
  go_enter Tryz.func59, Tryz.ntmps59
  go_wp2_with fail
  have K := (((Keeps.refl (fun _ => False) w).alloc (.cells #[.iface 153 (.pointer (some ⟨g, 0, none⟩))] 189)).alloc (.cells #[.func (.func 60) #[] #[]] 156)).alloc (.cells #[.func (.func 61) #[] #[]] 157)
  have r0 := ((Whole.new w 189 #[.iface 153 (.pointer (some ⟨g, 0, none⟩))]).alloc (.cells #[.func (.func 60) #[] #[]] 156)).alloc (.cells #[.func (.func 61) #[] #[]] 157)
  have r1 := (Whole.new (w.alloc (.cells #[.iface 153 (.pointer (some ⟨g, 0, none⟩))] 189)) 156 #[.func (.func 60) #[] #[]]).alloc (.cells #[.func (.func 61) #[] #[]] 157)
  have r3 := Whole.new (((w.alloc (.cells #[.iface 153 (.pointer (some ⟨g, 0, none⟩))] 189)).alloc (.cells #[.func (.func 60) #[] #[]] 156)).alloc (.cells #[.func (.func 61) #[] #[]] 157)) 39 #[.iface 153 (.pointer (some ⟨g, 0, none⟩)), .func (.func 78) #[] #[.pointer (some ⟨w.heap.size, 0, none⟩), .pointer (some ⟨w.heap.size + 1, 0, none⟩)], .func (.func 79) #[] #[.pointer (some ⟨w.heap.size + 2, 0, none⟩), .pointer (some ⟨w.heap.size, 0, none⟩)], .func (.func 80) #[] #[.pointer (some ⟨w.heap.size + 1, 0, none⟩), .pointer (some ⟨w.heap.size, 0, none⟩)]]
  simp only [World.size_alloc] at r1 r3
  have hld := run_loadVar_row (P := Tryz.prog) _ (w.heap.size + 1 + 1 + 1) 39 39 _ (0, 0) _ r3 Tryz.underlying39 rfl infoTC
  exact bodyPost_ret (results_cell1 rfl _ ⟨w.heap.size + 1 + 1 + 1, 0, none⟩ _ _ rfl hld) rfl ⟨rfl, K.alloc _, (r0.alloc _).cell 0, (r1.alloc _).cell 0⟩
end Go.Proofs.YtmdmccjmmljbkaaGreat
