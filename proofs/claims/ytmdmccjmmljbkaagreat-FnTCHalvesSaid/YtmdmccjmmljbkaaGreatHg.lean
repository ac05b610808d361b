/- The column of a kind of wide decimals. Conditions: none. -/
import Derived.Test.YtmdmccjmmljbkaaGreatHf
namespace Go.Proofs.YtmdmccjmmljbkaaGreat
open Go.RowKit Go.Lib
set_option linter.unusedVariables false
theorem results_ct {P : Program} {fn : Func} {t u : Tmp} {ty : TypeId} (h : fn.results = #[.cell t ty, .tmp u]) (tmps : Array Value) (p : Addr) (w : World) (x : Value) (hp : tmps.getD t undef = .pointer (some p)) (hx : (loadVar ty p).run P w = .ok x w) :
    (results fn tmps).run P w = .ok (.tuple #[x, tmps.getD u undef]) w := by
  have hp2 : tmps[t]?.getD undef = .pointer (some p) := by simpa using hp
  simp [results, h, hp2, asAddr, hx]
set_option maxRecDepth 100000 in
set_option maxHeartbeats 2000000 in
theorem vCol9 (w : World) (p tx rw : Value) : Calls Tryz.prog 35 #[.agg #[.int .i64 9, p, tx, rw]] w fun e w' => e = .returned (.tuple #[tcv9 (w.heap.size + 1 + 1) (w.heap.size + 1 + 1 + 1), .bool true]) ∧ Keeps (fun _ => False) w w' ∧ Whole w' (w.heap.size + 1 + 1) 137 #[.slice none 0 0] ∧ w'.cell? ⟨(w.heap.size + 1 + 1 + 1), 0, none⟩ = some (.iface 135 (.pointer (some ⟨w.heap.size + 1 + 1, 0, none⟩))) ∧ w'.cell? ⟨(w.heap.size + 1 + 1 + 1) + 1, 0, none⟩ = some (.func (.func 53) #[] #[]) := by
  have HT := Lib.hid (fun w g => tOf9 w g)
  have K0 := (((Keeps.refl (fun _ => False) w).alloc (.cells #[.int .i64 9, p, tx, rw] 29)).alloc (.cells #[.nilIface, .nilFunc, .nilFunc, .nilFunc] 39)).alloc (.cells #[.slice none 0 0] 137)
  have hC := Whole.new ((w.alloc (.cells #[.int .i64 9, p, tx, rw] 29)).alloc (.cells #[.nilIface, .nilFunc, .nilFunc, .nilFunc] 39)) 137 #[.slice none 0 0]
  have hZ := (Whole.new (w.alloc (.cells #[.int .i64 9, p, tx, rw] 29)) 39 #[.nilIface, .nilFunc, .nilFunc, .nilFunc]).alloc (.cells #[.slice none 0 0] 137)
  simp only [World.size_alloc] at hC hZ
  go_enter Tryz.func35, Tryz.ntmps35
  go_wp2_with fail
  refine (HT.out _ _).mono ?_
  rintro e w1 ⟨rfl, K1, c0, c1⟩
  simp only [World.size_alloc] at c0 c1 ⊢
  have hc1 := hC.keeps K1 (fun h => h)
  have hz1 := hZ.keeps K1 (fun h => h)
  have HK := Lib.hid (K0.trans K1 (fun _ _ h => h))
  have HC := Lib.hid hc1
  have HZ := Lib.hid hz1
  have HC0 := Lib.hid c0
  have HC1 := Lib.hid c1
  have z0 : w1.cell? ⟨w.heap.size + 1, 0, none⟩ = some (.nilIface) := hz1.cell 0
  have f0 : w1.frozen? ⟨w.heap.size + 1, 0, none⟩ = false := hz1.frozen 0
  have z1 : w1.cell? ⟨w.heap.size + 1, 1, none⟩ = some (.nilFunc) := hz1.cell 1
  have f1 : w1.frozen? ⟨w.heap.size + 1, 1, none⟩ = false := hz1.frozen 1
  have z2 : w1.cell? ⟨w.heap.size + 1, 2, none⟩ = some (.nilFunc) := hz1.cell 2
  have f2 : w1.frozen? ⟨w.heap.size + 1, 2, none⟩ = false := hz1.frozen 2
  have z3 : w1.cell? ⟨w.heap.size + 1, 3, none⟩ = some (.nilFunc) := hz1.cell 3
  have f3 : w1.frozen? ⟨w.heap.size + 1, 3, none⟩ = false := hz1.frozen 3
  have hl1 := hz1.lt
  clear K0 K1 hC hZ hc1 hz1 c0 c1
  go_wp2_with fail
  have r1 := ((((HZ.out.put 0 (.iface 135 (.pointer (some ⟨w.heap.size + 1 + 1, 0, none⟩)))).put 1 (.func (.func 72) #[] #[.pointer (some ⟨(w.heap.size + 1 + 1 + 1), 0, none⟩), .pointer (some ⟨(w.heap.size + 1 + 1 + 1) + 1, 0, none⟩)])).put 2 (.func (.func 73) #[] #[.pointer (some ⟨(w.heap.size + 1 + 1 + 1) + 2, 0, none⟩), .pointer (some ⟨(w.heap.size + 1 + 1 + 1), 0, none⟩)])).put 3 (.func (.func 74) #[] #[.pointer (some ⟨(w.heap.size + 1 + 1 + 1) + 1, 0, none⟩), .pointer (some ⟨(w.heap.size + 1 + 1 + 1), 0, none⟩)]))
  have hld := run_loadVar_row (P := Tryz.prog) _ (w.heap.size + 1) 39 39 _ (0, 0) _ r1 Tryz.underlying39 rfl infoTC
  have KS := (((((Keeps.refl (fun i => i = w.heap.size + 1) w1).setCell (p := ⟨w.heap.size + 1, 0, none⟩) (.inl rfl) (.iface 135 (.pointer (some ⟨w.heap.size + 1 + 1, 0, none⟩)))).setCell (p := ⟨w.heap.size + 1, 1, none⟩) (.inl rfl) (.func (.func 72) #[] #[.pointer (some ⟨(w.heap.size + 1 + 1 + 1), 0, none⟩), .pointer (some ⟨(w.heap.size + 1 + 1 + 1) + 1, 0, none⟩)])).setCell (p := ⟨w.heap.size + 1, 2, none⟩) (.inl rfl) (.func (.func 73) #[] #[.pointer (some ⟨(w.heap.size + 1 + 1 + 1) + 2, 0, none⟩), .pointer (some ⟨(w.heap.size + 1 + 1 + 1), 0, none⟩)])).setCell (p := ⟨w.heap.size + 1, 3, none⟩) (.inl rfl) (.func (.func 74) #[] #[.pointer (some ⟨(w.heap.size + 1 + 1 + 1) + 1, 0, none⟩), .pointer (some ⟨(w.heap.size + 1 + 1 + 1), 0, none⟩)]))
  exact bodyPost_ret (results_ct rfl _ ⟨w.heap.size + 1, 0, none⟩ _ _ rfl hld) rfl ⟨rfl, ((((HK.out.setCell (p := ⟨w.heap.size + 1, 0, none⟩) (.inr (Nat.le_succ _)) _).setCell (p := ⟨w.heap.size + 1, 1, none⟩) (.inr (Nat.le_succ _)) _).setCell (p := ⟨w.heap.size + 1, 2, none⟩) (.inr (Nat.le_succ _)) _).setCell (p := ⟨w.heap.size + 1, 3, none⟩) (.inr (Nat.le_succ _)) _), HC.out.keeps KS (by omega), (KS.cell (World.block_lt_of_cell? _ _ HC0.out) (by simp only; omega)).trans HC0.out, (KS.cell (World.block_lt_of_cell? _ _ HC1.out) (by simp only; omega)).trans HC1.out⟩
set_option maxRecDepth 100000 in
set_option maxHeartbeats 2000000 in
theorem vCol10 (w : World) (p tx rw : Value) : Calls Tryz.prog 35 #[.agg #[.int .i64 10, p, tx, rw]] w fun e w' => e = .returned (.tuple #[tcv10 (w.heap.size + 1 + 1) (w.heap.size + 1 + 1 + 1), .bool true]) ∧ Keeps (fun _ => False) w w' ∧ Whole w' (w.heap.size + 1 + 1) 145 #[.slice none 0 0] ∧ w'.cell? ⟨(w.heap.size + 1 + 1 + 1), 0, none⟩ = some (.iface 143 (.pointer (some ⟨w.heap.size + 1 + 1, 0, none⟩))) ∧ w'.cell? ⟨(w.heap.size + 1 + 1 + 1) + 1, 0, none⟩ = some (.func (.func 56) #[] #[]) := by
  have HT := Lib.hid (fun w g => tOf10 w g)
  have K0 := (((Keeps.refl (fun _ => False) w).alloc (.cells #[.int .i64 10, p, tx, rw] 29)).alloc (.cells #[.nilIface, .nilFunc, .nilFunc, .nilFunc] 39)).alloc (.cells #[.slice none 0 0] 145)
  have hC := Whole.new ((w.alloc (.cells #[.int .i64 10, p, tx, rw] 29)).alloc (.cells #[.nilIface, .nilFunc, .nilFunc, .nilFunc] 39)) 145 #[.slice none 0 0]
  have hZ := (Whole.new (w.alloc (.cells #[.int .i64 10, p, tx, rw] 29)) 39 #[.nilIface, .nilFunc, .nilFunc, .nilFunc]).alloc (.cells #[.slice none 0 0] 145)
  simp only [World.size_alloc] at hC hZ
  go_enter Tryz.func35, Tryz.ntmps35
  go_wp2_with fail
  refine (HT.out _ _).mono ?_
  rintro e w1 ⟨rfl, K1, c0, c1⟩
  simp only [World.size_alloc] at c0 c1 ⊢
  have hc1 := hC.keeps K1 (fun h => h)
  have hz1 := hZ.keeps K1 (fun h => h)
  have HK := Lib.hid (K0.trans K1 (fun _ _ h => h))
  have HC := Lib.hid hc1
  have HZ := Lib.hid hz1
  have HC0 := Lib.hid c0
  have HC1 := Lib.hid c1
  have z0 : w1.cell? ⟨w.heap.size + 1, 0, none⟩ = some (.nilIface) := hz1.cell 0
  have f0 : w1.frozen? ⟨w.heap.size + 1, 0, none⟩ = false := hz1.frozen 0
  have z1 : w1.cell? ⟨w.heap.size + 1, 1, none⟩ = some (.nilFunc) := hz1.cell 1
  have f1 : w1.frozen? ⟨w.heap.size + 1, 1, none⟩ = false := hz1.frozen 1
  have z2 : w1.cell? ⟨w.heap.size + 1, 2, none⟩ = some (.nilFunc) := hz1.cell 2
  have f2 : w1.frozen? ⟨w.heap.size + 1, 2, none⟩ = false := hz1.frozen 2
  have z3 : w1.cell? ⟨w.heap.size + 1, 3, none⟩ = some (.nilFunc) := hz1.cell 3
  have f3 : w1.frozen? ⟨w.heap.size + 1, 3, none⟩ = false := hz1.frozen 3
  have hl1 := hz1.lt
  clear K0 K1 hC hZ hc1 hz1 c0 c1
  go_wp2_with fail
  have r1 := ((((HZ.out.put 0 (.iface 143 (.pointer (some ⟨w.heap.size + 1 + 1, 0, none⟩)))).put 1 (.func (.func 75) #[] #[.pointer (some ⟨(w.heap.size + 1 + 1 + 1), 0, none⟩), .pointer (some ⟨(w.heap.size + 1 + 1 + 1) + 1, 0, none⟩)])).put 2 (.func (.func 76) #[] #[.pointer (some ⟨(w.heap.size + 1 + 1 + 1) + 2, 0, none⟩), .pointer (some ⟨(w.heap.size + 1 + 1 + 1), 0, none⟩)])).put 3 (.func (.func 77) #[] #[.pointer (some ⟨(w.heap.size + 1 + 1 + 1) + 1, 0, none⟩), .pointer (some ⟨(w.heap.size + 1 + 1 + 1), 0, none⟩)]))
  have hld := run_loadVar_row (P := Tryz.prog) _ (w.heap.size + 1) 39 39 _ (0, 0) _ r1 Tryz.underlying39 rfl infoTC
  have KS := (((((Keeps.refl (fun i => i = w.heap.size + 1) w1).setCell (p := ⟨w.heap.size + 1, 0, none⟩) (.inl rfl) (.iface 143 (.pointer (some ⟨w.heap.size + 1 + 1, 0, none⟩)))).setCell (p := ⟨w.heap.size + 1, 1, none⟩) (.inl rfl) (.func (.func 75) #[] #[.pointer (some ⟨(w.heap.size + 1 + 1 + 1), 0, none⟩), .pointer (some ⟨(w.heap.size + 1 + 1 + 1) + 1, 0, none⟩)])).setCell (p := ⟨w.heap.size + 1, 2, none⟩) (.inl rfl) (.func (.func 76) #[] #[.pointer (some ⟨(w.heap.size + 1 + 1 + 1) + 2, 0, none⟩), .pointer (some ⟨(w.heap.size + 1 + 1 + 1), 0, none⟩)])).setCell (p := ⟨w.heap.size + 1, 3, none⟩) (.inl rfl) (.func (.func 77) #[] #[.pointer (some ⟨(w.heap.size + 1 + 1 + 1) + 1, 0, none⟩), .pointer (some ⟨(w.heap.size + 1 + 1 + 1), 0, none⟩)]))
  exact bodyPost_ret (results_ct rfl _ ⟨w.heap.size + 1, 0, none⟩ _ _ rfl hld) rfl ⟨rfl, ((((HK.out.setCell (p := ⟨w.heap.size + 1, 0, none⟩) (.inr (Nat.le_succ _)) _).setCell (p := ⟨w.heap.size + 1, 1, none⟩) (.inr (Nat.le_succ _)) _).setCell (p := ⟨w.heap.size + 1, 2, none⟩) (.inr (Nat.le_succ _)) _).setCell (p := ⟨w.heap.size + 1, 3, none⟩) (.inr (Nat.le_succ _)) _), HC.out.keeps KS (by omega), (KS.cell (World.block_lt_of_cell? _ _ HC0.out) (by simp only; omega)).trans HC0.out, (KS.cell (World.block_lt_of_cell? _ _ HC1.out) (by simp only; omega)).trans HC1.out⟩
set_option maxRecDepth 100000 in
set_option maxHeartbeats 2000000 in
theorem vCol11 (w : World) (p tx rw : Value) : Calls Tryz.prog 35 #[.agg #[.int .i64 11, p, tx, rw]] w fun e w' => e = .returned (.tuple #[tcv11 (w.heap.size + 1 + 1) (w.heap.size + 1 + 1 + 1), .bool true]) ∧ Keeps (fun _ => False) w w' ∧ Whole w' (w.heap.size + 1 + 1) 155 #[.slice none 0 0] ∧ w'.cell? ⟨(w.heap.size + 1 + 1 + 1), 0, none⟩ = some (.iface 153 (.pointer (some ⟨w.heap.size + 1 + 1, 0, none⟩))) ∧ w'.cell? ⟨(w.heap.size + 1 + 1 + 1) + 1, 0, none⟩ = some (.func (.func 60) #[] #[]) := by
  have HT := Lib.hid (fun w g => tOf11 w g)
  have K0 := (((Keeps.refl (fun _ => False) w).alloc (.cells #[.int .i64 11, p, tx, rw] 29)).alloc (.cells #[.nilIface, .nilFunc, .nilFunc, .nilFunc] 39)).alloc (.cells #[.slice none 0 0] 155)
  have hC := Whole.new ((w.alloc (.cells #[.int .i64 11, p, tx, rw] 29)).alloc (.cells #[.nilIface, .nilFunc, .nilFunc, .nilFunc] 39)) 155 #[.slice none 0 0]
  have hZ := (Whole.new (w.alloc (.cells #[.int .i64 11, p, tx, rw] 29)) 39 #[.nilIface, .nilFunc, .nilFunc, .nilFunc]).alloc (.cells #[.slice none 0 0] 155)
  simp only [World.size_alloc] at hC hZ
  go_enter Tryz.func35, Tryz.ntmps35
  go_wp2_with fail
  refine (HT.out _ _).mono ?_
  rintro e w1 ⟨rfl, K1, c0, c1⟩
  simp only [World.size_alloc] at c0 c1 ⊢
  have hc1 := hC.keeps K1 (fun h => h)
  have hz1 := hZ.keeps K1 (fun h => h)
  have HK := Lib.hid (K0.trans K1 (fun _ _ h => h))
  have HC := Lib.hid hc1
  have HZ := Lib.hid hz1
  have HC0 := Lib.hid c0
  have HC1 := Lib.hid c1
  have z0 : w1.cell? ⟨w.heap.size + 1, 0, none⟩ = some (.nilIface) := hz1.cell 0
  have f0 : w1.frozen? ⟨w.heap.size + 1, 0, none⟩ = false := hz1.frozen 0
  have z1 : w1.cell? ⟨w.heap.size + 1, 1, none⟩ = some (.nilFunc) := hz1.cell 1
  have f1 : w1.frozen? ⟨w.heap.size + 1, 1, none⟩ = false := hz1.frozen 1
  have z2 : w1.cell? ⟨w.heap.size + 1, 2, none⟩ = some (.nilFunc) := hz1.cell 2
  have f2 : w1.frozen? ⟨w.heap.size + 1, 2, none⟩ = false := hz1.frozen 2
  have z3 : w1.cell? ⟨w.heap.size + 1, 3, none⟩ = some (.nilFunc) := hz1.cell 3
  have f3 : w1.frozen? ⟨w.heap.size + 1, 3, none⟩ = false := hz1.frozen 3
  have hl1 := hz1.lt
  clear K0 K1 hC hZ hc1 hz1 c0 c1
  go_wp2_with fail
  have r1 := ((((HZ.out.put 0 (.iface 153 (.pointer (some ⟨w.heap.size + 1 + 1, 0, none⟩)))).put 1 (.func (.func 78) #[] #[.pointer (some ⟨(w.heap.size + 1 + 1 + 1), 0, none⟩), .pointer (some ⟨(w.heap.size + 1 + 1 + 1) + 1, 0, none⟩)])).put 2 (.func (.func 79) #[] #[.pointer (some ⟨(w.heap.size + 1 + 1 + 1) + 2, 0, none⟩), .pointer (some ⟨(w.heap.size + 1 + 1 + 1), 0, none⟩)])).put 3 (.func (.func 80) #[] #[.pointer (some ⟨(w.heap.size + 1 + 1 + 1) + 1, 0, none⟩), .pointer (some ⟨(w.heap.size + 1 + 1 + 1), 0, none⟩)]))
  have hld := run_loadVar_row (P := Tryz.prog) _ (w.heap.size + 1) 39 39 _ (0, 0) _ r1 Tryz.underlying39 rfl infoTC
  have KS := (((((Keeps.refl (fun i => i = w.heap.size + 1) w1).setCell (p := ⟨w.heap.size + 1, 0, none⟩) (.inl rfl) (.iface 153 (.pointer (some ⟨w.heap.size + 1 + 1, 0, none⟩)))).setCell (p := ⟨w.heap.size + 1, 1, none⟩) (.inl rfl) (.func (.func 78) #[] #[.pointer (some ⟨(w.heap.size + 1 + 1 + 1), 0, none⟩), .pointer (some ⟨(w.heap.size + 1 + 1 + 1) + 1, 0, none⟩)])).setCell (p := ⟨w.heap.size + 1, 2, none⟩) (.inl rfl) (.func (.func 79) #[] #[.pointer (some ⟨(w.heap.size + 1 + 1 + 1) + 2, 0, none⟩), .pointer (some ⟨(w.heap.size + 1 + 1 + 1), 0, none⟩)])).setCell (p := ⟨w.heap.size + 1, 3, none⟩) (.inl rfl) (.func (.func 80) #[] #[.pointer (some ⟨(w.heap.size + 1 + 1 + 1) + 1, 0, none⟩), .pointer (some ⟨(w.heap.size + 1 + 1 + 1), 0, none⟩)]))
  exact bodyPost_ret (results_ct rfl _ ⟨w.heap.size + 1, 0, none⟩ _ _ rfl hld) rfl ⟨rfl, ((((HK.out.setCell (p := ⟨w.heap.size + 1, 0, none⟩) (.inr (Nat.le_succ _)) _).setCell (p := ⟨w.heap.size + 1, 1, none⟩) (.inr (Nat.le_succ _)) _).setCell (p := ⟨w.heap.size + 1, 2, none⟩) (.inr (Nat.le_succ _)) _).setCell (p := ⟨w.heap.size + 1, 3, none⟩) (.inr (Nat.le_succ _)) _), HC.out.keeps KS (by omega), (KS.cell (World.block_lt_of_cell? _ _ HC0.out) (by simp only; omega)).trans HC0.out, (KS.cell (World.block_lt_of_cell? _ _ HC1.out) (by simp only; omega)).trans HC1.out⟩
end Go.Proofs.YtmdmccjmmljbkaaGreat
