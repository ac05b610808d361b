/- Rows of numbers out of a column: the number turned into a row, a row at an index, all rows. Conditions: sizes far below the machine's. -/
import Derived.Test.YtoilbojaenfalaaGreatKc
import Derived.Test.YtoilbojaenfalaaGreatRc1
import Derived.Laws.Tables
namespace Go.Proofs.YtoilbojaenfalaaGreat
open Go.RowKit Go.Lib
set_option linter.unusedVariables false
theorem infoRow4 : (Tryz.prog.info? 29).map (·.size) = some 4 := by kernel_rfl
theorem ldRow {w : World} {g : Nat} {a b c d : Value} (hW : Whole w g 29 #[a, b, c, d]) : (loadVar 29 ⟨g, 0, none⟩).run Tryz.prog w = .ok (.agg #[a, b, c, d]) w :=
  run_loadVar_row (P := Tryz.prog) w g 29 29 _ (0, 0) _ hW Tryz.underlying29 rfl infoRow4
set_option maxRecDepth 100000 in
set_option maxHeartbeats 2000000 in
theorem kout8 (w : World) (a : Int) (h0 : 0 ≤ a) (h1 : a < 65536) : Calls Tryz.prog 36 #[.int .u16 a] w fun e w' => e = .returned (row4 a 0 0 0) ∧ Keeps (fun _ => False) w w' := by
  go_enter Tryz.func36, Tryz.ntmps36
  go_wp2_with fail
  exact bodyPost_ret (results_cell1 rfl _ ⟨w.heap.size, 0, none⟩ _ _ rfl (ldRow (Whole.new w 29 _))) rfl ⟨rfl, (Keeps.refl _ _).alloc _⟩
theorem iKRow8 : (Tryz.prog.info? 127).map (fun i => (i.methods.find? (·.name == "Row")).map (fun m => (m.path.toList.length, m.func))) = some (some (0, some (212, false))) := by kernel_rfl
theorem mKRow8 {w : World} {g : Nat} {x : Value} (hW : Whole w g 129 #[x]) (fuel : Nat) : (method (fuel + 1) 127 (.pointer (some ⟨g, 0, none⟩)) "Row").run Tryz.prog w = .ok (212, x) w := by
  obtain ⟨i, m, h1, h2, h3, h4⟩ := method_row iKRow8
  exact method_val h1 h2 h3 h4 Tryz.underlying127 (by have h0 : w.cell? ⟨g, 0, none⟩ = some x := hW.cell 0; go_simp)
set_option maxRecDepth 100000 in
set_option maxHeartbeats 2000000 in
theorem kRow8 (w : World) (A : Option Addr) (n c i x : Nat) (xs : List Nat) (hR : Rd w 1 A n (nw xs .u16)) (hi : i < n) (hx : xs[i]? = some x) :
    Calls Tryz.prog 212 #[.slice A n c, .int .i64 (i : Int)] w fun e w' => e = .returned (.int .u16 (x : Int)) ∧ w = w' := by
  obtain ⟨ad, u, rfl, hb, hu, hcell⟩ := hR.at' hi
  have hu' : u = .int .u16 (x : Int) := by
    rw [nw, List.getElem?_map, hx] at hu
    exact (Option.some.inj hu).symm
  subst hu'
  clear hu hR hx
  go_enter Tryz.func212, Tryz.ntmps212
  go_wp2_with fail
  go_ret
  exact ⟨rfl, rfl⟩
abbrev KatS8 (b g : Nat) (A : Option Addr) (n c : Nat) (w : World) : Prop := w.cell? ⟨b, 0, none⟩ = some (.iface 127 (.pointer (some ⟨g, 0, none⟩))) ∧ w.cell? ⟨b, 2, none⟩ = some (.func (.func 36) #[] #[]) ∧ (method 499 127 (.pointer (some ⟨g, 0, none⟩)) "Row").run Tryz.prog w = .ok (212, .slice A n c) w
theorem katS8 {S : Nat → Prop} {w w' : World} {g : Nat} {A : Option Addr} {n c : Nat} (hW : Whole w g 129 #[.slice A n c]) (kk : Keeps S ((w.alloc (.cells #[.iface 127 (.pointer (some ⟨g, 0, none⟩)), .func (.func 35) #[] #[], .func (.func 36) #[] #[]] 135)).alloc (.cells #[.int .u64 0, .int .u64 0, .int .u64 0, .int .u64 0] 29)) w') (n1 : ¬ S g) (n2 : ¬ S w.heap.size) : KatS8 w.heap.size g A n c w' := by
  have h0 := hW.keeps (((Keeps.refl (fun _ => False) w).alloc (.cells #[.iface 127 (.pointer (some ⟨g, 0, none⟩)), .func (.func 35) #[] #[], .func (.func 36) #[] #[]] 135)).alloc (.cells #[.int .u64 0, .int .u64 0, .int .u64 0, .int .u64 0] 29)) (fun h => h)
  have h1 := ((Whole.new w 135 #[.iface 127 (.pointer (some ⟨g, 0, none⟩)), .func (.func 35) #[] #[], .func (.func 36) #[] #[]]).alloc (.cells #[.int .u64 0, .int .u64 0, .int .u64 0, .int .u64 0] 29)).keeps kk n2
  exact ⟨h1.cell 0, h1.cell 2, mKRow8 (h0.keeps kk n1) _⟩
set_option maxRecDepth 100000 in
set_option maxHeartbeats 2000000 in
theorem kat8 (w : World) (base g : Nat) (A : Option Addr) (n c i x : Nat) (xs : List Nat) (hC : KAt 129 70 w base g A n c (nw xs .u16)) (hi : i < n) (hx : xs[i]? = some x) (hxm : x < 65536) (hn : n ≤ 1000000) :
    Calls Tryz.prog 218 #[.agg #[.iface 127 (.pointer (some ⟨g, 0, none⟩)), .func (.func 35) #[] #[], .func (.func 36) #[] #[]], .int .i64 (i : Int)] w fun e w' => e = .returned (row4 (x : Int) 0 0 0) ∧ Keeps (fun _ => False) w w' := by
  have hgl := hC.blk.lt
  have HS := Lib.hid (fun w' (kk : Keeps (fun _ => False) ((w.alloc (.cells #[.iface 127 (.pointer (some ⟨g, 0, none⟩)), .func (.func 35) #[] #[], .func (.func 36) #[] #[]] 135)).alloc (.cells #[.int .u64 0, .int .u64 0, .int .u64 0, .int .u64 0] 29)) w') => katS8 (w' := w') hC.blk kk (fun h => h) (fun h => h))
  have HS2 := Lib.hid (fun w' (kk : Keeps (fun i => i = w.heap.size + 1) ((w.alloc (.cells #[.iface 127 (.pointer (some ⟨g, 0, none⟩)), .func (.func 35) #[] #[], .func (.func 36) #[] #[]] 135)).alloc (.cells #[.int .u64 0, .int .u64 0, .int .u64 0, .int .u64 0] 29)) w') => katS8 (w' := w') hC.blk kk (by omega) (by omega))
  have K0 := Lib.hid (((Keeps.refl (fun _ => False) w).alloc (.cells #[.iface 127 (.pointer (some ⟨g, 0, none⟩)), .func (.func 35) #[] #[], .func (.func 36) #[] #[]] 135)).alloc (.cells #[.int .u64 0, .int .u64 0, .int .u64 0, .int .u64 0] 29))
  have HR := Lib.hid (fun w' (kk : Keeps (fun _ => False) ((w.alloc (.cells #[.iface 127 (.pointer (some ⟨g, 0, none⟩)), .func (.func 35) #[] #[], .func (.func 36) #[] #[]] 135)).alloc (.cells #[.int .u64 0, .int .u64 0, .int .u64 0, .int .u64 0] 29)) w') => kRow8 w' A n c i x xs ((Rd.own hC.own).keeps (K0.out.trans kk (fun _ _ h => h)) (fun _ _ h => h)) hi hx)
  have hB2 := Whole.new (w.alloc (.cells #[.iface 127 (.pointer (some ⟨g, 0, none⟩)), .func (.func 35) #[] #[], .func (.func 36) #[] #[]] 135)) 29 #[.int .u64 0, .int .u64 0, .int .u64 0, .int .u64 0]
  rw [World.size_alloc] at hB2
  have HB2 := Lib.hid hB2
  have hx0 : (0 : Int) ≤ (x : Int) := by omega
  have hx1 : (x : Int) < 65536 := by omega
  clear hC hx hB2
  go_enter Tryz.func218, Tryz.ntmps218
  go_wp2_with fail
  have kk := (Keeps.refl (fun _ => False) ((w.alloc (.cells #[.iface 127 (.pointer (some ⟨g, 0, none⟩)), .func (.func 35) #[] #[], .func (.func 36) #[] #[]] 135)).alloc (.cells #[.int .u64 0, .int .u64 0, .int .u64 0, .int .u64 0] 29))).drew
  go_region_held3 (fun w' => KatS8 w.heap.size g A n c w') (first | exact HS.out _ kk | exact HS2.out _ k4) (first
    | (go_at_call 212; refine (HR.out _ kk).mono ?_; rintro e w3 ⟨rfl, rfl⟩)
    | (go_at_call 36; refine (kout8 _ (x : Int) hx0 hx1).mono ?_; rintro e w4 ⟨rfl, K4⟩; have kk := kk.trans K4 (fun _ _ h => h); have b4 := HB2.out.keeps kk (fun h => h); have hbl := b4.lt; have c0 : w4.cell? ⟨w.heap.size + 1, 0, none⟩ = some (.int .u64 0) := b4.cell 0; have c1 : w4.cell? ⟨w.heap.size + 1, 1, none⟩ = some (.int .u64 0) := b4.cell 1; have c2 : w4.cell? ⟨w.heap.size + 1, 2, none⟩ = some (.int .u64 0) := b4.cell 2; have c3 : w4.cell? ⟨w.heap.size + 1, 3, none⟩ = some (.int .u64 0) := b4.cell 3; have f0 := b4.frozen 0; have f1 := b4.frozen 1; have f2 := b4.frozen 2; have f3 := b4.frozen 3; have k4 := (((((kk.mono (S' := fun i => i = w.heap.size + 1) (fun _ _ h => h.elim)).setCell (p := ⟨w.heap.size + 1, 0, none⟩) (.inl rfl) (.int .u64 (x : Int))).setCell (p := ⟨w.heap.size + 1, 1, none⟩) (.inl rfl) (.int .u64 0)).setCell (p := ⟨w.heap.size + 1, 2, none⟩) (.inl rfl) (.int .u64 0)).setCell (p := ⟨w.heap.size + 1, 3, none⟩) (.inl rfl) (.int .u64 0))))
  all_goals
    go_wp2_with fail
    have b5 := (((b4.put 0 (.int .u64 (x : Int))).put 1 (.int .u64 0)).put 2 (.int .u64 0)).put 3 (.int .u64 0)
    exact bodyPost_ret (results_cell1 rfl _ ⟨w.heap.size + 1, 0, none⟩ _ _ rfl (ldRow b5)) rfl ⟨rfl, K0.out.trans k4 (fun i hi h => by omega)⟩
set_option maxRecDepth 100000 in
set_option maxHeartbeats 2000000 in
theorem kout9 (w : World) (a : Int) (h0 : 0 ≤ a) (h1 : a < 4294967296) : Calls Tryz.prog 38 #[.int .u32 a] w fun e w' => e = .returned (row4 a 0 0 0) ∧ Keeps (fun _ => False) w w' := by
  go_enter Tryz.func38, Tryz.ntmps38
  go_wp2_with fail
  exact bodyPost_ret (results_cell1 rfl _ ⟨w.heap.size, 0, none⟩ _ _ rfl (ldRow (Whole.new w 29 _))) rfl ⟨rfl, (Keeps.refl _ _).alloc _⟩
theorem iKRow9 : (Tryz.prog.info? 53).map (fun i => (i.methods.find? (·.name == "Row")).map (fun m => (m.path.toList.length, m.func))) = some (some (0, some (380, false))) := by kernel_rfl
theorem mKRow9 {w : World} {g : Nat} {x : Value} (hW : Whole w g 54 #[x]) (fuel : Nat) : (method (fuel + 1) 53 (.pointer (some ⟨g, 0, none⟩)) "Row").run Tryz.prog w = .ok (380, x) w := by
  obtain ⟨i, m, h1, h2, h3, h4⟩ := method_row iKRow9
  exact method_val h1 h2 h3 h4 Tryz.underlying53 (by have h0 : w.cell? ⟨g, 0, none⟩ = some x := hW.cell 0; go_simp)
set_option maxRecDepth 100000 in
set_option maxHeartbeats 2000000 in
theorem kRow9 (w : World) (A : Option Addr) (n c i x : Nat) (xs : List Nat) (hR : Rd w 1 A n (nw xs .u32)) (hi : i < n) (hx : xs[i]? = some x) :
    Calls Tryz.prog 380 #[.slice A n c, .int .i64 (i : Int)] w fun e w' => e = .returned (.int .u32 (x : Int)) ∧ w = w' := by
  obtain ⟨ad, u, rfl, hb, hu, hcell⟩ := hR.at' hi
  have hu' : u = .int .u32 (x : Int) := by
    rw [nw, List.getElem?_map, hx] at hu
    exact (Option.some.inj hu).symm
  subst hu'
  clear hu hR hx
  go_enter Tryz.func380, Tryz.ntmps380
  go_wp2_with fail
  go_ret
  exact ⟨rfl, rfl⟩
abbrev KatS9 (b g : Nat) (A : Option Addr) (n c : Nat) (w : World) : Prop := w.cell? ⟨b, 0, none⟩ = some (.iface 53 (.pointer (some ⟨g, 0, none⟩))) ∧ w.cell? ⟨b, 2, none⟩ = some (.func (.func 38) #[] #[]) ∧ (method 499 53 (.pointer (some ⟨g, 0, none⟩)) "Row").run Tryz.prog w = .ok (380, .slice A n c) w
theorem katS9 {S : Nat → Prop} {w w' : World} {g : Nat} {A : Option Addr} {n c : Nat} (hW : Whole w g 54 #[.slice A n c]) (kk : Keeps S ((w.alloc (.cells #[.iface 53 (.pointer (some ⟨g, 0, none⟩)), .func (.func 37) #[] #[], .func (.func 38) #[] #[]] 141)).alloc (.cells #[.int .u64 0, .int .u64 0, .int .u64 0, .int .u64 0] 29)) w') (n1 : ¬ S g) (n2 : ¬ S w.heap.size) : KatS9 w.heap.size g A n c w' := by
  have h0 := hW.keeps (((Keeps.refl (fun _ => False) w).alloc (.cells #[.iface 53 (.pointer (some ⟨g, 0, none⟩)), .func (.func 37) #[] #[], .func (.func 38) #[] #[]] 141)).alloc (.cells #[.int .u64 0, .int .u64 0, .int .u64 0, .int .u64 0] 29)) (fun h => h)
  have h1 := ((Whole.new w 141 #[.iface 53 (.pointer (some ⟨g, 0, none⟩)), .func (.func 37) #[] #[], .func (.func 38) #[] #[]]).alloc (.cells #[.int .u64 0, .int .u64 0, .int .u64 0, .int .u64 0] 29)).keeps kk n2
  exact ⟨h1.cell 0, h1.cell 2, mKRow9 (h0.keeps kk n1) _⟩
set_option maxRecDepth 100000 in
set_option maxHeartbeats 2000000 in
theorem kat9 (w : World) (base g : Nat) (A : Option Addr) (n c i x : Nat) (xs : List Nat) (hC : KAt 54 26 w base g A n c (nw xs .u32)) (hi : i < n) (hx : xs[i]? = some x) (hxm : x < 4294967296) (hn : n ≤ 1000000) :
    Calls Tryz.prog 221 #[.agg #[.iface 53 (.pointer (some ⟨g, 0, none⟩)), .func (.func 37) #[] #[], .func (.func 38) #[] #[]], .int .i64 (i : Int)] w fun e w' => e = .returned (row4 (x : Int) 0 0 0) ∧ Keeps (fun _ => False) w w' := by
  have hgl := hC.blk.lt
  have HS := Lib.hid (fun w' (kk : Keeps (fun _ => False) ((w.alloc (.cells #[.iface 53 (.pointer (some ⟨g, 0, none⟩)), .func (.func 37) #[] #[], .func (.func 38) #[] #[]] 141)).alloc (.cells #[.int .u64 0, .int .u64 0, .int .u64 0, .int .u64 0] 29)) w') => katS9 (w' := w') hC.blk kk (fun h => h) (fun h => h))
  have HS2 := Lib.hid (fun w' (kk : Keeps (fun i => i = w.heap.size + 1) ((w.alloc (.cells #[.iface 53 (.pointer (some ⟨g, 0, none⟩)), .func (.func 37) #[] #[], .func (.func 38) #[] #[]] 141)).alloc (.cells #[.int .u64 0, .int .u64 0, .int .u64 0, .int .u64 0] 29)) w') => katS9 (w' := w') hC.blk kk (by omega) (by omega))
  have K0 := Lib.hid (((Keeps.refl (fun _ => False) w).alloc (.cells #[.iface 53 (.pointer (some ⟨g, 0, none⟩)), .func (.func 37) #[] #[], .func (.func 38) #[] #[]] 141)).alloc (.cells #[.int .u64 0, .int .u64 0, .int .u64 0, .int .u64 0] 29))
  have HR := Lib.hid (fun w' (kk : Keeps (fun _ => False) ((w.alloc (.cells #[.iface 53 (.pointer (some ⟨g, 0, none⟩)), .func (.func 37) #[] #[], .func (.func 38) #[] #[]] 141)).alloc (.cells #[.int .u64 0, .int .u64 0, .int .u64 0, .int .u64 0] 29)) w') => kRow9 w' A n c i x xs ((Rd.own hC.own).keeps (K0.out.trans kk (fun _ _ h => h)) (fun _ _ h => h)) hi hx)
  have hB2 := Whole.new (w.alloc (.cells #[.iface 53 (.pointer (some ⟨g, 0, none⟩)), .func (.func 37) #[] #[], .func (.func 38) #[] #[]] 141)) 29 #[.int .u64 0, .int .u64 0, .int .u64 0, .int .u64 0]
  rw [World.size_alloc] at hB2
  have HB2 := Lib.hid hB2
  have hx0 : (0 : Int) ≤ (x : Int) := by omega
  have hx1 : (x : Int) < 4294967296 := by omega
  clear hC hx hB2
  go_enter Tryz.func221, Tryz.ntmps221
  go_wp2_with fail
  have kk := (Keeps.refl (fun _ => False) ((w.alloc (.cells #[.iface 53 (.pointer (some ⟨g, 0, none⟩)), .func (.func 37) #[] #[], .func (.func 38) #[] #[]] 141)).alloc (.cells #[.int .u64 0, .int .u64 0, .int .u64 0, .int .u64 0] 29))).drew
  go_region_held3 (fun w' => KatS9 w.heap.size g A n c w') (first | exact HS.out _ kk | exact HS2.out _ k4) (first
    | (go_at_call 380; refine (HR.out _ kk).mono ?_; rintro e w3 ⟨rfl, rfl⟩)
    | (go_at_call 38; refine (kout9 _ (x : Int) hx0 hx1).mono ?_; rintro e w4 ⟨rfl, K4⟩; have kk := kk.trans K4 (fun _ _ h => h); have b4 := HB2.out.keeps kk (fun h => h); have hbl := b4.lt; have c0 : w4.cell? ⟨w.heap.size + 1, 0, none⟩ = some (.int .u64 0) := b4.cell 0; have c1 : w4.cell? ⟨w.heap.size + 1, 1, none⟩ = some (.int .u64 0) := b4.cell 1; have c2 : w4.cell? ⟨w.heap.size + 1, 2, none⟩ = some (.int .u64 0) := b4.cell 2; have c3 : w4.cell? ⟨w.heap.size + 1, 3, none⟩ = some (.int .u64 0) := b4.cell 3; have f0 := b4.frozen 0; have f1 := b4.frozen 1; have f2 := b4.frozen 2; have f3 := b4.frozen 3; have k4 := (((((kk.mono (S' := fun i => i = w.heap.size + 1) (fun _ _ h => h.elim)).setCell (p := ⟨w.heap.size + 1, 0, none⟩) (.inl rfl) (.int .u64 (x : Int))).setCell (p := ⟨w.heap.size + 1, 1, none⟩) (.inl rfl) (.int .u64 0)).setCell (p := ⟨w.heap.size + 1, 2, none⟩) (.inl rfl) (.int .u64 0)).setCell (p := ⟨w.heap.size + 1, 3, none⟩) (.inl rfl) (.int .u64 0))))
  all_goals
    go_wp2_with fail
    have b5 := (((b4.put 0 (.int .u64 (x : Int))).put 1 (.int .u64 0)).put 2 (.int .u64 0)).put 3 (.int .u64 0)
    exact bodyPost_ret (results_cell1 rfl _ ⟨w.heap.size + 1, 0, none⟩ _ _ rfl (ldRow b5)) rfl ⟨rfl, K0.out.trans k4 (fun i hi h => by omega)⟩
set_option maxRecDepth 100000 in
set_option maxHeartbeats 2000000 in
theorem kout10 (w : World) (a : Int) (h0 : 0 ≤ a) (h1 : a < 18446744073709551616) : Calls Tryz.prog 40 #[.int .u64 a] w fun e w' => e = .returned (row4 a 0 0 0) ∧ Keeps (fun _ => False) w w' := by
  go_enter Tryz.func40, Tryz.ntmps40
  go_wp2_with fail
  exact bodyPost_ret (results_cell1 rfl _ ⟨w.heap.size, 0, none⟩ _ _ rfl (ldRow (Whole.new w 29 _))) rfl ⟨rfl, (Keeps.refl _ _).alloc _⟩
theorem iKRow10 : (Tryz.prog.info? 142).map (fun i => (i.methods.find? (·.name == "Row")).map (fun m => (m.path.toList.length, m.func))) = some (some (0, some (225, false))) := by kernel_rfl
theorem mKRow10 {w : World} {g : Nat} {x : Value} (hW : Whole w g 144 #[x]) (fuel : Nat) : (method (fuel + 1) 142 (.pointer (some ⟨g, 0, none⟩)) "Row").run Tryz.prog w = .ok (225, x) w := by
  obtain ⟨i, m, h1, h2, h3, h4⟩ := method_row iKRow10
  exact method_val h1 h2 h3 h4 Tryz.underlying142 (by have h0 : w.cell? ⟨g, 0, none⟩ = some x := hW.cell 0; go_simp)
set_option maxRecDepth 100000 in
set_option maxHeartbeats 2000000 in
theorem kRow10 (w : World) (A : Option Addr) (n c i x : Nat) (xs : List Nat) (hR : Rd w 1 A n (nw xs .u64)) (hi : i < n) (hx : xs[i]? = some x) :
    Calls Tryz.prog 225 #[.slice A n c, .int .i64 (i : Int)] w fun e w' => e = .returned (.int .u64 (x : Int)) ∧ w = w' := by
  obtain ⟨ad, u, rfl, hb, hu, hcell⟩ := hR.at' hi
  have hu' : u = .int .u64 (x : Int) := by
    rw [nw, List.getElem?_map, hx] at hu
    exact (Option.some.inj hu).symm
  subst hu'
  clear hu hR hx
  go_enter Tryz.func225, Tryz.ntmps225
  go_wp2_with fail
  go_ret
  exact ⟨rfl, rfl⟩
abbrev KatS10 (b g : Nat) (A : Option Addr) (n c : Nat) (w : World) : Prop := w.cell? ⟨b, 0, none⟩ = some (.iface 142 (.pointer (some ⟨g, 0, none⟩))) ∧ w.cell? ⟨b, 2, none⟩ = some (.func (.func 40) #[] #[]) ∧ (method 499 142 (.pointer (some ⟨g, 0, none⟩)) "Row").run Tryz.prog w = .ok (225, .slice A n c) w
theorem katS10 {S : Nat → Prop} {w w' : World} {g : Nat} {A : Option Addr} {n c : Nat} (hW : Whole w g 144 #[.slice A n c]) (kk : Keeps S ((w.alloc (.cells #[.iface 142 (.pointer (some ⟨g, 0, none⟩)), .func (.func 39) #[] #[], .func (.func 40) #[] #[]] 150)).alloc (.cells #[.int .u64 0, .int .u64 0, .int .u64 0, .int .u64 0] 29)) w') (n1 : ¬ S g) (n2 : ¬ S w.heap.size) : KatS10 w.heap.size g A n c w' := by
  have h0 := hW.keeps (((Keeps.refl (fun _ => False) w).alloc (.cells #[.iface 142 (.pointer (some ⟨g, 0, none⟩)), .func (.func 39) #[] #[], .func (.func 40) #[] #[]] 150)).alloc (.cells #[.int .u64 0, .int .u64 0, .int .u64 0, .int .u64 0] 29)) (fun h => h)
  have h1 := ((Whole.new w 150 #[.iface 142 (.pointer (some ⟨g, 0, none⟩)), .func (.func 39) #[] #[], .func (.func 40) #[] #[]]).alloc (.cells #[.int .u64 0, .int .u64 0, .int .u64 0, .int .u64 0] 29)).keeps kk n2
  exact ⟨h1.cell 0, h1.cell 2, mKRow10 (h0.keeps kk n1) _⟩
set_option maxRecDepth 100000 in
set_option maxHeartbeats 2000000 in
theorem kat10 (w : World) (base g : Nat) (A : Option Addr) (n c i x : Nat) (xs : List Nat) (hC : KAt 144 27 w base g A n c (nw xs .u64)) (hi : i < n) (hx : xs[i]? = some x) (hxm : x < 18446744073709551616) (hn : n ≤ 1000000) :
    Calls Tryz.prog 230 #[.agg #[.iface 142 (.pointer (some ⟨g, 0, none⟩)), .func (.func 39) #[] #[], .func (.func 40) #[] #[]], .int .i64 (i : Int)] w fun e w' => e = .returned (row4 (x : Int) 0 0 0) ∧ Keeps (fun _ => False) w w' := by
  have hgl := hC.blk.lt
  have HS := Lib.hid (fun w' (kk : Keeps (fun _ => False) ((w.alloc (.cells #[.iface 142 (.pointer (some ⟨g, 0, none⟩)), .func (.func 39) #[] #[], .func (.func 40) #[] #[]] 150)).alloc (.cells #[.int .u64 0, .int .u64 0, .int .u64 0, .int .u64 0] 29)) w') => katS10 (w' := w') hC.blk kk (fun h => h) (fun h => h))
  have HS2 := Lib.hid (fun w' (kk : Keeps (fun i => i = w.heap.size + 1) ((w.alloc (.cells #[.iface 142 (.pointer (some ⟨g, 0, none⟩)), .func (.func 39) #[] #[], .func (.func 40) #[] #[]] 150)).alloc (.cells #[.int .u64 0, .int .u64 0, .int .u64 0, .int .u64 0] 29)) w') => katS10 (w' := w') hC.blk kk (by omega) (by omega))
  have K0 := Lib.hid (((Keeps.refl (fun _ => False) w).alloc (.cells #[.iface 142 (.pointer (some ⟨g, 0, none⟩)), .func (.func 39) #[] #[], .func (.func 40) #[] #[]] 150)).alloc (.cells #[.int .u64 0, .int .u64 0, .int .u64 0, .int .u64 0] 29))
  have HR := Lib.hid (fun w' (kk : Keeps (fun _ => False) ((w.alloc (.cells #[.iface 142 (.pointer (some ⟨g, 0, none⟩)), .func (.func 39) #[] #[], .func (.func 40) #[] #[]] 150)).alloc (.cells #[.int .u64 0, .int .u64 0, .int .u64 0, .int .u64 0] 29)) w') => kRow10 w' A n c i x xs ((Rd.own hC.own).keeps (K0.out.trans kk (fun _ _ h => h)) (fun _ _ h => h)) hi hx)
  have hB2 := Whole.new (w.alloc (.cells #[.iface 142 (.pointer (some ⟨g, 0, none⟩)), .func (.func 39) #[] #[], .func (.func 40) #[] #[]] 150)) 29 #[.int .u64 0, .int .u64 0, .int .u64 0, .int .u64 0]
  rw [World.size_alloc] at hB2
  have HB2 := Lib.hid hB2
  have hx0 : (0 : Int) ≤ (x : Int) := by omega
  have hx1 : (x : Int) < 18446744073709551616 := by omega
  clear hC hx hB2
  go_enter Tryz.func230, Tryz.ntmps230
  go_wp2_with fail
  have kk := (Keeps.refl (fun _ => False) ((w.alloc (.cells #[.iface 142 (.pointer (some ⟨g, 0, none⟩)), .func (.func 39) #[] #[], .func (.func 40) #[] #[]] 150)).alloc (.cells #[.int .u64 0, .int .u64 0, .int .u64 0, .int .u64 0] 29))).drew
  go_region_held3 (fun w' => KatS10 w.heap.size g A n c w') (first | exact HS.out _ kk | exact HS2.out _ k4) (first
    | (go_at_call 225; refine (HR.out _ kk).mono ?_; rintro e w3 ⟨rfl, rfl⟩)
    | (go_at_call 40; refine (kout10 _ (x : Int) hx0 hx1).mono ?_; rintro e w4 ⟨rfl, K4⟩; have kk := kk.trans K4 (fun _ _ h => h); have b4 := HB2.out.keeps kk (fun h => h); have hbl := b4.lt; have c0 : w4.cell? ⟨w.heap.size + 1, 0, none⟩ = some (.int .u64 0) := b4.cell 0; have c1 : w4.cell? ⟨w.heap.size + 1, 1, none⟩ = some (.int .u64 0) := b4.cell 1; have c2 : w4.cell? ⟨w.heap.size + 1, 2, none⟩ = some (.int .u64 0) := b4.cell 2; have c3 : w4.cell? ⟨w.heap.size + 1, 3, none⟩ = some (.int .u64 0) := b4.cell 3; have f0 := b4.frozen 0; have f1 := b4.frozen 1; have f2 := b4.frozen 2; have f3 := b4.frozen 3; have k4 := (((((kk.mono (S' := fun i => i = w.heap.size + 1) (fun _ _ h => h.elim)).setCell (p := ⟨w.heap.size + 1, 0, none⟩) (.inl rfl) (.int .u64 (x : Int))).setCell (p := ⟨w.heap.size + 1, 1, none⟩) (.inl rfl) (.int .u64 0)).setCell (p := ⟨w.heap.size + 1, 2, none⟩) (.inl rfl) (.int .u64 0)).setCell (p := ⟨w.heap.size + 1, 3, none⟩) (.inl rfl) (.int .u64 0))))
  all_goals
    go_wp2_with fail
    have b5 := (((b4.put 0 (.int .u64 (x : Int))).put 1 (.int .u64 0)).put 2 (.int .u64 0)).put 3 (.int .u64 0)
    exact bodyPost_ret (results_cell1 rfl _ ⟨w.heap.size + 1, 0, none⟩ _ _ rfl (ldRow b5)) rfl ⟨rfl, K0.out.trans k4 (fun i hi h => by omega)⟩
end Go.Proofs.YtoilbojaenfalaaGreat
