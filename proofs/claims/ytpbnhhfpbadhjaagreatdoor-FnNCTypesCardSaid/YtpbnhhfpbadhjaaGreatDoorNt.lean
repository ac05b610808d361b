/- impl.column of each kind of numbers: a new column; the name of its type. Conditions: none. -/
import Derived.Test.YtpbnhhfpbadhjaaGreatDoorMem
import Derived.Test.YtpbnhhfpbadhjaaGreatDoorChecked
import Derived.Test.YtpbnhhfpbadhjaaGreatDoorMt
import Derived.Laws.Rows
import Derived.IntWalk
import Derived.ChangeKeysEq
namespace Go.Proofs.YtpbnhhfpbadhjaaGreatDoor
open Go.RowKit Go.Lib
set_option linter.unusedVariables false
def nv1 (g : Nat) : Value := .iface 42 (.agg #[.iface 30 (.pointer (some ⟨g, 0, none⟩)), .func (.func 7) #[] #[], .func (.func 8) #[] #[]])
def nv2 (g : Nat) : Value := .iface 53 (.agg #[.iface 43 (.pointer (some ⟨g, 0, none⟩)), .func (.func 9) #[] #[], .func (.func 10) #[] #[]])
def nv3 (g : Nat) : Value := .iface 63 (.agg #[.iface 54 (.pointer (some ⟨g, 0, none⟩)), .func (.func 11) #[] #[], .func (.func 12) #[] #[]])
def nv4 (g : Nat) : Value := .iface 72 (.agg #[.iface 64 (.pointer (some ⟨g, 0, none⟩)), .func (.func 13) #[] #[], .func (.func 14) #[] #[]])
def nv5 (g : Nat) : Value := .iface 86 (.agg #[.iface 73 (.pointer (some ⟨g, 0, none⟩)), .func (.func 15) #[] #[], .func (.func 17) #[] #[]])
def nv6 (g : Nat) : Value := .iface 97 (.agg #[.iface 87 (.pointer (some ⟨g, 0, none⟩)), .func (.func 19) #[] #[], .func (.func 21) #[] #[]])
def nv7 (g : Nat) : Value := .iface 106 (.agg #[.iface 98 (.pointer (some ⟨g, 0, none⟩)), .func (.func 22) #[] #[], .func (.func 23) #[] #[]])
def nv8 (g : Nat) : Value := .iface 115 (.agg #[.iface 107 (.pointer (some ⟨g, 0, none⟩)), .func (.func 24) #[] #[], .func (.func 25) #[] #[]])
def nv9 (g : Nat) : Value := .iface 124 (.agg #[.iface 116 (.pointer (some ⟨g, 0, none⟩)), .func (.func 26) #[] #[], .func (.func 27) #[] #[]])
def nv10 (g : Nat) : Value := .iface 133 (.agg #[.iface 125 (.pointer (some ⟨g, 0, none⟩)), .func (.func 28) #[] #[], .func (.func 29) #[] #[]])
def nv11 (g : Nat) : Value := .iface 141 (.agg #[.iface 134 (.pointer (some ⟨g, 0, none⟩)), .func (.func 16) #[] #[], .func (.func 31) #[] #[]])
def nv12 (g : Nat) : Value := .iface 151 (.agg #[.iface 142 (.pointer (some ⟨g, 0, none⟩)), .func (.func 32) #[] #[], .func (.func 33) #[] #[]])
def nv13 (g : Nat) : Value := .iface 160 (.agg #[.iface 152 (.pointer (some ⟨g, 0, none⟩)), .func (.func 34) #[] #[], .func (.func 35) #[] #[]])
def nv14 (g : Nat) : Value := .iface 172 (.agg #[.iface 161 (.pointer (some ⟨g, 0, none⟩)), .func (.func 36) #[] #[], .func (.func 38) #[] #[]])
def nv15 (g : Nat) : Value := .iface 160 (.agg #[.iface 173 (.pointer (some ⟨g, 0, none⟩)), .func (.func 34) #[] #[], .func (.func 35) #[] #[]])
def nv16 (g : Nat) : Value := .iface 183 (.agg #[.iface 175 (.pointer (some ⟨g, 0, none⟩)), .func (.func 40) #[] #[], .func (.func 41) #[] #[]])
def nv17 (g : Nat) : Value := .iface 193 (.agg #[.iface 184 (.pointer (some ⟨g, 0, none⟩)), .func (.func 42) #[] #[], .func (.func 43) #[] #[]])
def nv18 (g : Nat) : Value := .iface 206 (.agg #[.iface 194 (.pointer (some ⟨g, 0, none⟩)), .func (.func 44) #[] #[], .func (.func 46) #[] #[]])
def nv19 (g : Nat) : Value := .iface 216 (.agg #[.iface 207 (.pointer (some ⟨g, 0, none⟩)), .func (.func 48) #[] #[], .func (.func 49) #[] #[]])
def nv20 (g : Nat) : Value := .iface 226 (.agg #[.iface 217 (.pointer (some ⟨g, 0, none⟩)), .func (.func 50) #[] #[], .func (.func 51) #[] #[]])
def nv21 (g : Nat) : Value := .iface 236 (.agg #[.iface 227 (.pointer (some ⟨g, 0, none⟩)), .func (.func 52) #[] #[], .func (.func 53) #[] #[]])
set_option maxRecDepth 100000 in
theorem col1 (w : World) : Calls Tryz.prog 6 #[.int .i64 1] w fun e w' => e = .returned (nv1 w.heap.size) ∧ w' = w.alloc (.cells #[.slice none 0 0] 32) := by
  go_enter Tryz.func6, Tryz.ntmps6
  go_wp2
  go_ret
  exact ⟨rfl, rfl⟩
set_option maxRecDepth 100000 in
theorem col2 (w : World) : Calls Tryz.prog 6 #[.int .i64 2] w fun e w' => e = .returned (nv2 w.heap.size) ∧ w' = w.alloc (.cells #[.slice none 0 0] 45) := by
  go_enter Tryz.func6, Tryz.ntmps6
  go_wp2
  go_ret
  exact ⟨rfl, rfl⟩
set_option maxRecDepth 100000 in
theorem col3 (w : World) : Calls Tryz.prog 6 #[.int .i64 3] w fun e w' => e = .returned (nv3 w.heap.size) ∧ w' = w.alloc (.cells #[.slice none 0 0] 56) := by
  go_enter Tryz.func6, Tryz.ntmps6
  go_wp2
  go_ret
  exact ⟨rfl, rfl⟩
set_option maxRecDepth 100000 in
theorem col4 (w : World) : Calls Tryz.prog 6 #[.int .i64 4] w fun e w' => e = .returned (nv4 w.heap.size) ∧ w' = w.alloc (.cells #[.slice none 0 0] 66) := by
  go_enter Tryz.func6, Tryz.ntmps6
  go_wp2
  go_ret
  exact ⟨rfl, rfl⟩
set_option maxRecDepth 100000 in
theorem col5 (w : World) : Calls Tryz.prog 6 #[.int .i64 5] w fun e w' => e = .returned (nv5 w.heap.size) ∧ w' = w.alloc (.cells #[.slice none 0 0] 75) := by
  go_enter Tryz.func6, Tryz.ntmps6
  go_wp2
  go_ret
  exact ⟨rfl, rfl⟩
set_option maxRecDepth 100000 in
theorem col6 (w : World) : Calls Tryz.prog 6 #[.int .i64 6] w fun e w' => e = .returned (nv6 w.heap.size) ∧ w' = w.alloc (.cells #[.slice none 0 0] 89) := by
  go_enter Tryz.func6, Tryz.ntmps6
  go_wp2
  go_ret
  exact ⟨rfl, rfl⟩
set_option maxRecDepth 100000 in
theorem col7 (w : World) : Calls Tryz.prog 6 #[.int .i64 7] w fun e w' => e = .returned (nv7 w.heap.size) ∧ w' = w.alloc (.cells #[.slice none 0 0] 100) := by
  go_enter Tryz.func6, Tryz.ntmps6
  go_wp2
  go_ret
  exact ⟨rfl, rfl⟩
set_option maxRecDepth 100000 in
theorem col8 (w : World) : Calls Tryz.prog 6 #[.int .i64 8] w fun e w' => e = .returned (nv8 w.heap.size) ∧ w' = w.alloc (.cells #[.slice none 0 0] 109) := by
  go_enter Tryz.func6, Tryz.ntmps6
  go_wp2
  go_ret
  exact ⟨rfl, rfl⟩
set_option maxRecDepth 100000 in
theorem col9 (w : World) : Calls Tryz.prog 6 #[.int .i64 9] w fun e w' => e = .returned (nv9 w.heap.size) ∧ w' = w.alloc (.cells #[.slice none 0 0] 118) := by
  go_enter Tryz.func6, Tryz.ntmps6
  go_wp2
  go_ret
  exact ⟨rfl, rfl⟩
set_option maxRecDepth 100000 in
theorem col10 (w : World) : Calls Tryz.prog 6 #[.int .i64 10] w fun e w' => e = .returned (nv10 w.heap.size) ∧ w' = w.alloc (.cells #[.slice none 0 0] 127) := by
  go_enter Tryz.func6, Tryz.ntmps6
  go_wp2
  go_ret
  exact ⟨rfl, rfl⟩
set_option maxRecDepth 100000 in
theorem oth11 (w : World) : Calls Tryz.prog 30 #[.int .i64 11] w fun e w' => e = .returned (nv11 w.heap.size) ∧ w' = w.alloc (.cells #[.slice none 0 0] 136) := by
  go_enter Tryz.func30, Tryz.ntmps30
  go_wp2
  go_ret
  exact ⟨rfl, rfl⟩
set_option maxRecDepth 100000 in
theorem col11 (w : World) : Calls Tryz.prog 6 #[.int .i64 11] w fun e w' => e = .returned (nv11 w.heap.size) ∧ w' = w.alloc (.cells #[.slice none 0 0] 136) := by
  go_enter Tryz.func6, Tryz.ntmps6
  go_wp2_with fail
  refine (oth11 w).mono ?_
  rintro e w1 ⟨rfl, rfl⟩
  go_wp2_with fail
  go_ret
  exact ⟨rfl, rfl⟩
set_option maxRecDepth 100000 in
theorem oth12 (w : World) : Calls Tryz.prog 30 #[.int .i64 12] w fun e w' => e = .returned (nv12 w.heap.size) ∧ w' = w.alloc (.cells #[.slice none 0 0] 144) := by
  go_enter Tryz.func30, Tryz.ntmps30
  go_wp2
  go_ret
  exact ⟨rfl, rfl⟩
set_option maxRecDepth 100000 in
theorem col12 (w : World) : Calls Tryz.prog 6 #[.int .i64 12] w fun e w' => e = .returned (nv12 w.heap.size) ∧ w' = w.alloc (.cells #[.slice none 0 0] 144) := by
  go_enter Tryz.func6, Tryz.ntmps6
  go_wp2_with fail
  refine (oth12 w).mono ?_
  rintro e w1 ⟨rfl, rfl⟩
  go_wp2_with fail
  go_ret
  exact ⟨rfl, rfl⟩
set_option maxRecDepth 100000 in
theorem oth13 (w : World) : Calls Tryz.prog 30 #[.int .i64 13] w fun e w' => e = .returned (nv13 w.heap.size) ∧ w' = w.alloc (.cells #[.slice none 0 0] 154) := by
  go_enter Tryz.func30, Tryz.ntmps30
  go_wp2
  go_ret
  exact ⟨rfl, rfl⟩
set_option maxRecDepth 100000 in
theorem col13 (w : World) : Calls Tryz.prog 6 #[.int .i64 13] w fun e w' => e = .returned (nv13 w.heap.size) ∧ w' = w.alloc (.cells #[.slice none 0 0] 154) := by
  go_enter Tryz.func6, Tryz.ntmps6
  go_wp2_with fail
  refine (oth13 w).mono ?_
  rintro e w1 ⟨rfl, rfl⟩
  go_wp2_with fail
  go_ret
  exact ⟨rfl, rfl⟩
set_option maxRecDepth 100000 in
theorem oth14 (w : World) : Calls Tryz.prog 30 #[.int .i64 14] w fun e w' => e = .returned (nv14 w.heap.size) ∧ w' = w.alloc (.cells #[.slice none 0 0] 163) := by
  go_enter Tryz.func30, Tryz.ntmps30
  go_wp2
  go_ret
  exact ⟨rfl, rfl⟩
set_option maxRecDepth 100000 in
theorem col14 (w : World) : Calls Tryz.prog 6 #[.int .i64 14] w fun e w' => e = .returned (nv14 w.heap.size) ∧ w' = w.alloc (.cells #[.slice none 0 0] 163) := by
  go_enter Tryz.func6, Tryz.ntmps6
  go_wp2_with fail
  refine (oth14 w).mono ?_
  rintro e w1 ⟨rfl, rfl⟩
  go_wp2_with fail
  go_ret
  exact ⟨rfl, rfl⟩
set_option maxRecDepth 100000 in
theorem oth15 (w : World) : Calls Tryz.prog 30 #[.int .i64 15] w fun e w' => e = .returned (nv15 w.heap.size) ∧ w' = w.alloc (.cells #[.slice none 0 0] 174) := by
  go_enter Tryz.func30, Tryz.ntmps30
  go_wp2
  go_ret
  exact ⟨rfl, rfl⟩
set_option maxRecDepth 100000 in
theorem col15 (w : World) : Calls Tryz.prog 6 #[.int .i64 15] w fun e w' => e = .returned (nv15 w.heap.size) ∧ w' = w.alloc (.cells #[.slice none 0 0] 174) := by
  go_enter Tryz.func6, Tryz.ntmps6
  go_wp2_with fail
  refine (oth15 w).mono ?_
  rintro e w1 ⟨rfl, rfl⟩
  go_wp2_with fail
  go_ret
  exact ⟨rfl, rfl⟩
set_option maxRecDepth 100000 in
theorem oth16 (w : World) : Calls Tryz.prog 30 #[.int .i64 16] w fun e w' => e = .returned (nv16 w.heap.size) ∧ w' = w.alloc (.cells #[.slice none 0 0] 177) := by
  go_enter Tryz.func30, Tryz.ntmps30
  go_wp2
  go_ret
  exact ⟨rfl, rfl⟩
set_option maxRecDepth 100000 in
theorem col16 (w : World) : Calls Tryz.prog 6 #[.int .i64 16] w fun e w' => e = .returned (nv16 w.heap.size) ∧ w' = w.alloc (.cells #[.slice none 0 0] 177) := by
  go_enter Tryz.func6, Tryz.ntmps6
  go_wp2_with fail
  refine (oth16 w).mono ?_
  rintro e w1 ⟨rfl, rfl⟩
  go_wp2_with fail
  go_ret
  exact ⟨rfl, rfl⟩
set_option maxRecDepth 100000 in
theorem oth17 (w : World) : Calls Tryz.prog 30 #[.int .i64 17] w fun e w' => e = .returned (nv17 w.heap.size) ∧ w' = w.alloc (.cells #[.slice none 0 0] 186) := by
  go_enter Tryz.func30, Tryz.ntmps30
  go_wp2
  go_ret
  exact ⟨rfl, rfl⟩
set_option maxRecDepth 100000 in
theorem col17 (w : World) : Calls Tryz.prog 6 #[.int .i64 17] w fun e w' => e = .returned (nv17 w.heap.size) ∧ w' = w.alloc (.cells #[.slice none 0 0] 186) := by
  go_enter Tryz.func6, Tryz.ntmps6
  go_wp2_with fail
  refine (oth17 w).mono ?_
  rintro e w1 ⟨rfl, rfl⟩
  go_wp2_with fail
  go_ret
  exact ⟨rfl, rfl⟩
set_option maxRecDepth 100000 in
theorem oth18 (w : World) : Calls Tryz.prog 30 #[.int .i64 18] w fun e w' => e = .returned (nv18 w.heap.size) ∧ w' = w.alloc (.cells #[.slice none 0 0] 196) := by
  go_enter Tryz.func30, Tryz.ntmps30
  go_wp2
  go_ret
  exact ⟨rfl, rfl⟩
set_option maxRecDepth 100000 in
theorem col18 (w : World) : Calls Tryz.prog 6 #[.int .i64 18] w fun e w' => e = .returned (nv18 w.heap.size) ∧ w' = w.alloc (.cells #[.slice none 0 0] 196) := by
  go_enter Tryz.func6, Tryz.ntmps6
  go_wp2_with fail
  refine (oth18 w).mono ?_
  rintro e w1 ⟨rfl, rfl⟩
  go_wp2_with fail
  go_ret
  exact ⟨rfl, rfl⟩
set_option maxRecDepth 100000 in
theorem oth19 (w : World) : Calls Tryz.prog 30 #[.int .i64 19] w fun e w' => e = .returned (nv19 w.heap.size) ∧ w' = w.alloc (.cells #[.slice none 0 0] 209) := by
  go_enter Tryz.func30, Tryz.ntmps30
  go_wp2
  go_ret
  exact ⟨rfl, rfl⟩
set_option maxRecDepth 100000 in
theorem col19 (w : World) : Calls Tryz.prog 6 #[.int .i64 19] w fun e w' => e = .returned (nv19 w.heap.size) ∧ w' = w.alloc (.cells #[.slice none 0 0] 209) := by
  go_enter Tryz.func6, Tryz.ntmps6
  go_wp2_with fail
  refine (oth19 w).mono ?_
  rintro e w1 ⟨rfl, rfl⟩
  go_wp2_with fail
  go_ret
  exact ⟨rfl, rfl⟩
set_option maxRecDepth 100000 in
theorem oth20 (w : World) : Calls Tryz.prog 30 #[.int .i64 20] w fun e w' => e = .returned (nv20 w.heap.size) ∧ w' = w.alloc (.cells #[.slice none 0 0] 219) := by
  go_enter Tryz.func30, Tryz.ntmps30
  go_wp2
  go_ret
  exact ⟨rfl, rfl⟩
set_option maxRecDepth 100000 in
theorem col20 (w : World) : Calls Tryz.prog 6 #[.int .i64 20] w fun e w' => e = .returned (nv20 w.heap.size) ∧ w' = w.alloc (.cells #[.slice none 0 0] 219) := by
  go_enter Tryz.func6, Tryz.ntmps6
  go_wp2_with fail
  refine (oth20 w).mono ?_
  rintro e w1 ⟨rfl, rfl⟩
  go_wp2_with fail
  go_ret
  exact ⟨rfl, rfl⟩
set_option maxRecDepth 100000 in
theorem oth21 (w : World) : Calls Tryz.prog 30 #[.int .i64 21] w fun e w' => e = .returned (nv21 w.heap.size) ∧ w' = w.alloc (.cells #[.slice none 0 0] 229) := by
  go_enter Tryz.func30, Tryz.ntmps30
  go_wp2
  go_ret
  exact ⟨rfl, rfl⟩
set_option maxRecDepth 100000 in
theorem col21 (w : World) : Calls Tryz.prog 6 #[.int .i64 21] w fun e w' => e = .returned (nv21 w.heap.size) ∧ w' = w.alloc (.cells #[.slice none 0 0] 229) := by
  go_enter Tryz.func6, Tryz.ntmps6
  go_wp2_with fail
  refine (oth21 w).mono ?_
  rintro e w1 ⟨rfl, rfl⟩
  go_wp2_with fail
  go_ret
  exact ⟨rfl, rfl⟩
theorem iT1 : (Tryz.prog.info? 30).map (fun i => (i.methods.find? (·.name == "Type")).map (fun m => (m.path.toList.length, m.func))) = some (some (0, some (77, false))) := by kernel_rfl
theorem mT1 {w : World} {g : Nat} {x : Value} (hW : Whole w g 32 #[x]) (fuel : Nat) : (method (fuel + 1) 30 (.pointer (some ⟨g, 0, none⟩)) "Type").run Tryz.prog w = .ok (77, x) w := by
  obtain ⟨i, m, h1, h2, h3, h4⟩ := method_row iT1
  exact method_val h1 h2 h3 h4 Tryz.underlying30 (by have h0 : w.cell? ⟨g, 0, none⟩ = some x := hW.cell 0; go_simp)
theorem iN1 : (Tryz.prog.info? 42).map (fun i => (i.methods.find? (·.name == "Type")).map (fun m => (m.path.toList.map (fun s => (s.struct, s.index, s.deref)), m.func))) = some (some ([(42, 0, false)], none)) := by kernel_rfl
set_option maxRecDepth 10000 in
theorem tName1 (w : World) (x : Value) : Calls Tryz.prog 77 #[x] w fun e w' => e = .returned (.string ⟨#[73, 110, 116, 56]⟩) ∧ w' = w := by
  go_enter Tryz.func77, Tryz.ntmps77
  go_wp2
  go_ret
  exact ⟨rfl, rfl⟩
set_option maxRecDepth 100000 in
theorem ncType1 (w : World) : Calls Tryz.prog 4 #[.int .i64 1] w fun e w' => e = .returned (.string ⟨#[73, 110, 116, 56]⟩) ∧ Keeps (fun _ => False) w w' := by
  have hW := Whole.new w 32 #[.slice none 0 0]
  have hme : (method 437 42 (.agg #[.iface 30 (.pointer (some ⟨w.heap.size, 0, none⟩)), .func (.func 7) #[] #[], .func (.func 8) #[] #[]]) "Type").run Tryz.prog (w.alloc (.cells #[.slice none 0 0] 32)) = .ok (77, .slice none 0 0) (w.alloc (.cells #[.slice none 0 0] 32)) :=
    (method_emb iN1 Tryz.underlying42 rfl rfl (fun w => by simp [isAgg, run_underlying Tryz.underlying40]) rfl).trans (mT1 hW _)
  have HC := Lib.hid (col1 w)
  have HT := Lib.hid (fun w x => tName1 w x)
  clear hW
  go_enter Tryz.func4, Tryz.ntmps4
  go_wp2_with fail
  refine HC.out.mono ?_
  unfold nv1
  rintro e w1 ⟨rfl, rfl⟩
  go_wp2_with fail
  refine (HT.out _ _).mono ?_
  rintro e w2 ⟨rfl, rfl⟩
  go_wp2_with fail
  go_ret
  exact ⟨rfl, (Keeps.refl _ _).alloc _⟩
theorem iT2 : (Tryz.prog.info? 43).map (fun i => (i.methods.find? (·.name == "Type")).map (fun m => (m.path.toList.length, m.func))) = some (some (0, some (86, false))) := by kernel_rfl
theorem mT2 {w : World} {g : Nat} {x : Value} (hW : Whole w g 45 #[x]) (fuel : Nat) : (method (fuel + 1) 43 (.pointer (some ⟨g, 0, none⟩)) "Type").run Tryz.prog w = .ok (86, x) w := by
  obtain ⟨i, m, h1, h2, h3, h4⟩ := method_row iT2
  exact method_val h1 h2 h3 h4 Tryz.underlying43 (by have h0 : w.cell? ⟨g, 0, none⟩ = some x := hW.cell 0; go_simp)
theorem iN2 : (Tryz.prog.info? 53).map (fun i => (i.methods.find? (·.name == "Type")).map (fun m => (m.path.toList.map (fun s => (s.struct, s.index, s.deref)), m.func))) = some (some ([(53, 0, false)], none)) := by kernel_rfl
set_option maxRecDepth 10000 in
theorem tName2 (w : World) (x : Value) : Calls Tryz.prog 86 #[x] w fun e w' => e = .returned (.string ⟨#[73, 110, 116, 49, 54]⟩) ∧ w' = w := by
  go_enter Tryz.func86, Tryz.ntmps86
  go_wp2
  go_ret
  exact ⟨rfl, rfl⟩
set_option maxRecDepth 100000 in
theorem ncType2 (w : World) : Calls Tryz.prog 4 #[.int .i64 2] w fun e w' => e = .returned (.string ⟨#[73, 110, 116, 49, 54]⟩) ∧ Keeps (fun _ => False) w w' := by
  have hW := Whole.new w 45 #[.slice none 0 0]
  have hme : (method 437 53 (.agg #[.iface 43 (.pointer (some ⟨w.heap.size, 0, none⟩)), .func (.func 9) #[] #[], .func (.func 10) #[] #[]]) "Type").run Tryz.prog (w.alloc (.cells #[.slice none 0 0] 45)) = .ok (86, .slice none 0 0) (w.alloc (.cells #[.slice none 0 0] 45)) :=
    (method_emb iN2 Tryz.underlying53 rfl rfl (fun w => by simp [isAgg, run_underlying Tryz.underlying51]) rfl).trans (mT2 hW _)
  have HC := Lib.hid (col2 w)
  have HT := Lib.hid (fun w x => tName2 w x)
  clear hW
  go_enter Tryz.func4, Tryz.ntmps4
  go_wp2_with fail
  refine HC.out.mono ?_
  unfold nv2
  rintro e w1 ⟨rfl, rfl⟩
  go_wp2_with fail
  refine (HT.out _ _).mono ?_
  rintro e w2 ⟨rfl, rfl⟩
  go_wp2_with fail
  go_ret
  exact ⟨rfl, (Keeps.refl _ _).alloc _⟩
theorem iT3 : (Tryz.prog.info? 54).map (fun i => (i.methods.find? (·.name == "Type")).map (fun m => (m.path.toList.length, m.func))) = some (some (0, some (95, false))) := by kernel_rfl
theorem mT3 {w : World} {g : Nat} {x : Value} (hW : Whole w g 56 #[x]) (fuel : Nat) : (method (fuel + 1) 54 (.pointer (some ⟨g, 0, none⟩)) "Type").run Tryz.prog w = .ok (95, x) w := by
  obtain ⟨i, m, h1, h2, h3, h4⟩ := method_row iT3
  exact method_val h1 h2 h3 h4 Tryz.underlying54 (by have h0 : w.cell? ⟨g, 0, none⟩ = some x := hW.cell 0; go_simp)
theorem iN3 : (Tryz.prog.info? 63).map (fun i => (i.methods.find? (·.name == "Type")).map (fun m => (m.path.toList.map (fun s => (s.struct, s.index, s.deref)), m.func))) = some (some ([(63, 0, false)], none)) := by kernel_rfl
set_option maxRecDepth 10000 in
theorem tName3 (w : World) (x : Value) : Calls Tryz.prog 95 #[x] w fun e w' => e = .returned (.string ⟨#[73, 110, 116, 51, 50]⟩) ∧ w' = w := by
  go_enter Tryz.func95, Tryz.ntmps95
  go_wp2
  go_ret
  exact ⟨rfl, rfl⟩
set_option maxRecDepth 100000 in
theorem ncType3 (w : World) : Calls Tryz.prog 4 #[.int .i64 3] w fun e w' => e = .returned (.string ⟨#[73, 110, 116, 51, 50]⟩) ∧ Keeps (fun _ => False) w w' := by
  have hW := Whole.new w 56 #[.slice none 0 0]
  have hme : (method 437 63 (.agg #[.iface 54 (.pointer (some ⟨w.heap.size, 0, none⟩)), .func (.func 11) #[] #[], .func (.func 12) #[] #[]]) "Type").run Tryz.prog (w.alloc (.cells #[.slice none 0 0] 56)) = .ok (95, .slice none 0 0) (w.alloc (.cells #[.slice none 0 0] 56)) :=
    (method_emb iN3 Tryz.underlying63 rfl rfl (fun w => by simp [isAgg, run_underlying Tryz.underlying61]) rfl).trans (mT3 hW _)
  have HC := Lib.hid (col3 w)
  have HT := Lib.hid (fun w x => tName3 w x)
  clear hW
  go_enter Tryz.func4, Tryz.ntmps4
  go_wp2_with fail
  refine HC.out.mono ?_
  unfold nv3
  rintro e w1 ⟨rfl, rfl⟩
  go_wp2_with fail
  refine (HT.out _ _).mono ?_
  rintro e w2 ⟨rfl, rfl⟩
  go_wp2_with fail
  go_ret
  exact ⟨rfl, (Keeps.refl _ _).alloc _⟩
theorem iT4 : (Tryz.prog.info? 64).map (fun i => (i.methods.find? (·.name == "Type")).map (fun m => (m.path.toList.length, m.func))) = some (some (0, some (104, false))) := by kernel_rfl
theorem mT4 {w : World} {g : Nat} {x : Value} (hW : Whole w g 66 #[x]) (fuel : Nat) : (method (fuel + 1) 64 (.pointer (some ⟨g, 0, none⟩)) "Type").run Tryz.prog w = .ok (104, x) w := by
  obtain ⟨i, m, h1, h2, h3, h4⟩ := method_row iT4
  exact method_val h1 h2 h3 h4 Tryz.underlying64 (by have h0 : w.cell? ⟨g, 0, none⟩ = some x := hW.cell 0; go_simp)
theorem iN4 : (Tryz.prog.info? 72).map (fun i => (i.methods.find? (·.name == "Type")).map (fun m => (m.path.toList.map (fun s => (s.struct, s.index, s.deref)), m.func))) = some (some ([(72, 0, false)], none)) := by kernel_rfl
set_option maxRecDepth 10000 in
theorem tName4 (w : World) (x : Value) : Calls Tryz.prog 104 #[x] w fun e w' => e = .returned (.string ⟨#[73, 110, 116, 54, 52]⟩) ∧ w' = w := by
  go_enter Tryz.func104, Tryz.ntmps104
  go_wp2
  go_ret
  exact ⟨rfl, rfl⟩
set_option maxRecDepth 100000 in
theorem ncType4 (w : World) : Calls Tryz.prog 4 #[.int .i64 4] w fun e w' => e = .returned (.string ⟨#[73, 110, 116, 54, 52]⟩) ∧ Keeps (fun _ => False) w w' := by
  have hW := Whole.new w 66 #[.slice none 0 0]
  have hme : (method 437 72 (.agg #[.iface 64 (.pointer (some ⟨w.heap.size, 0, none⟩)), .func (.func 13) #[] #[], .func (.func 14) #[] #[]]) "Type").run Tryz.prog (w.alloc (.cells #[.slice none 0 0] 66)) = .ok (104, .slice none 0 0) (w.alloc (.cells #[.slice none 0 0] 66)) :=
    (method_emb iN4 Tryz.underlying72 rfl rfl (fun w => by simp [isAgg, run_underlying Tryz.underlying70]) rfl).trans (mT4 hW _)
  have HC := Lib.hid (col4 w)
  have HT := Lib.hid (fun w x => tName4 w x)
  clear hW
  go_enter Tryz.func4, Tryz.ntmps4
  go_wp2_with fail
  refine HC.out.mono ?_
  unfold nv4
  rintro e w1 ⟨rfl, rfl⟩
  go_wp2_with fail
  refine (HT.out _ _).mono ?_
  rintro e w2 ⟨rfl, rfl⟩
  go_wp2_with fail
  go_ret
  exact ⟨rfl, (Keeps.refl _ _).alloc _⟩
theorem iT5 : (Tryz.prog.info? 73).map (fun i => (i.methods.find? (·.name == "Type")).map (fun m => (m.path.toList.length, m.func))) = some (some (0, some (113, false))) := by kernel_rfl
theorem mT5 {w : World} {g : Nat} {x : Value} (hW : Whole w g 75 #[x]) (fuel : Nat) : (method (fuel + 1) 73 (.pointer (some ⟨g, 0, none⟩)) "Type").run Tryz.prog w = .ok (113, x) w := by
  obtain ⟨i, m, h1, h2, h3, h4⟩ := method_row iT5
  exact method_val h1 h2 h3 h4 Tryz.underlying73 (by have h0 : w.cell? ⟨g, 0, none⟩ = some x := hW.cell 0; go_simp)
theorem iN5 : (Tryz.prog.info? 86).map (fun i => (i.methods.find? (·.name == "Type")).map (fun m => (m.path.toList.map (fun s => (s.struct, s.index, s.deref)), m.func))) = some (some ([(86, 0, false)], none)) := by kernel_rfl
set_option maxRecDepth 10000 in
theorem tName5 (w : World) (x : Value) : Calls Tryz.prog 113 #[x] w fun e w' => e = .returned (.string ⟨#[73, 110, 116, 49, 50, 56]⟩) ∧ w' = w := by
  go_enter Tryz.func113, Tryz.ntmps113
  go_wp2
  go_ret
  exact ⟨rfl, rfl⟩
set_option maxRecDepth 100000 in
theorem ncType5 (w : World) : Calls Tryz.prog 4 #[.int .i64 5] w fun e w' => e = .returned (.string ⟨#[73, 110, 116, 49, 50, 56]⟩) ∧ Keeps (fun _ => False) w w' := by
  have hW := Whole.new w 75 #[.slice none 0 0]
  have hme : (method 437 86 (.agg #[.iface 73 (.pointer (some ⟨w.heap.size, 0, none⟩)), .func (.func 15) #[] #[], .func (.func 17) #[] #[]]) "Type").run Tryz.prog (w.alloc (.cells #[.slice none 0 0] 75)) = .ok (113, .slice none 0 0) (w.alloc (.cells #[.slice none 0 0] 75)) :=
    (method_emb iN5 Tryz.underlying86 rfl rfl (fun w => by simp [isAgg, run_underlying Tryz.underlying84]) rfl).trans (mT5 hW _)
  have HC := Lib.hid (col5 w)
  have HT := Lib.hid (fun w x => tName5 w x)
  clear hW
  go_enter Tryz.func4, Tryz.ntmps4
  go_wp2_with fail
  refine HC.out.mono ?_
  unfold nv5
  rintro e w1 ⟨rfl, rfl⟩
  go_wp2_with fail
  refine (HT.out _ _).mono ?_
  rintro e w2 ⟨rfl, rfl⟩
  go_wp2_with fail
  go_ret
  exact ⟨rfl, (Keeps.refl _ _).alloc _⟩
theorem iT6 : (Tryz.prog.info? 87).map (fun i => (i.methods.find? (·.name == "Type")).map (fun m => (m.path.toList.length, m.func))) = some (some (0, some (124, false))) := by kernel_rfl
theorem mT6 {w : World} {g : Nat} {x : Value} (hW : Whole w g 89 #[x]) (fuel : Nat) : (method (fuel + 1) 87 (.pointer (some ⟨g, 0, none⟩)) "Type").run Tryz.prog w = .ok (124, x) w := by
  obtain ⟨i, m, h1, h2, h3, h4⟩ := method_row iT6
  exact method_val h1 h2 h3 h4 Tryz.underlying87 (by have h0 : w.cell? ⟨g, 0, none⟩ = some x := hW.cell 0; go_simp)
theorem iN6 : (Tryz.prog.info? 97).map (fun i => (i.methods.find? (·.name == "Type")).map (fun m => (m.path.toList.map (fun s => (s.struct, s.index, s.deref)), m.func))) = some (some ([(97, 0, false)], none)) := by kernel_rfl
set_option maxRecDepth 10000 in
theorem tName6 (w : World) (x : Value) : Calls Tryz.prog 124 #[x] w fun e w' => e = .returned (.string ⟨#[73, 110, 116, 50, 53, 54]⟩) ∧ w' = w := by
  go_enter Tryz.func124, Tryz.ntmps124
  go_wp2
  go_ret
  exact ⟨rfl, rfl⟩
set_option maxRecDepth 100000 in
theorem ncType6 (w : World) : Calls Tryz.prog 4 #[.int .i64 6] w fun e w' => e = .returned (.string ⟨#[73, 110, 116, 50, 53, 54]⟩) ∧ Keeps (fun _ => False) w w' := by
  have hW := Whole.new w 89 #[.slice none 0 0]
  have hme : (method 437 97 (.agg #[.iface 87 (.pointer (some ⟨w.heap.size, 0, none⟩)), .func (.func 19) #[] #[], .func (.func 21) #[] #[]]) "Type").run Tryz.prog (w.alloc (.cells #[.slice none 0 0] 89)) = .ok (124, .slice none 0 0) (w.alloc (.cells #[.slice none 0 0] 89)) :=
    (method_emb iN6 Tryz.underlying97 rfl rfl (fun w => by simp [isAgg, run_underlying Tryz.underlying95]) rfl).trans (mT6 hW _)
  have HC := Lib.hid (col6 w)
  have HT := Lib.hid (fun w x => tName6 w x)
  clear hW
  go_enter Tryz.func4, Tryz.ntmps4
  go_wp2_with fail
  refine HC.out.mono ?_
  unfold nv6
  rintro e w1 ⟨rfl, rfl⟩
  go_wp2_with fail
  refine (HT.out _ _).mono ?_
  rintro e w2 ⟨rfl, rfl⟩
  go_wp2_with fail
  go_ret
  exact ⟨rfl, (Keeps.refl _ _).alloc _⟩
theorem iT7 : (Tryz.prog.info? 98).map (fun i => (i.methods.find? (·.name == "Type")).map (fun m => (m.path.toList.length, m.func))) = some (some (0, some (133, false))) := by kernel_rfl
theorem mT7 {w : World} {g : Nat} {x : Value} (hW : Whole w g 100 #[x]) (fuel : Nat) : (method (fuel + 1) 98 (.pointer (some ⟨g, 0, none⟩)) "Type").run Tryz.prog w = .ok (133, x) w := by
  obtain ⟨i, m, h1, h2, h3, h4⟩ := method_row iT7
  exact method_val h1 h2 h3 h4 Tryz.underlying98 (by have h0 : w.cell? ⟨g, 0, none⟩ = some x := hW.cell 0; go_simp)
theorem iN7 : (Tryz.prog.info? 106).map (fun i => (i.methods.find? (·.name == "Type")).map (fun m => (m.path.toList.map (fun s => (s.struct, s.index, s.deref)), m.func))) = some (some ([(106, 0, false)], none)) := by kernel_rfl
set_option maxRecDepth 10000 in
theorem tName7 (w : World) (x : Value) : Calls Tryz.prog 133 #[x] w fun e w' => e = .returned (.string ⟨#[85, 73, 110, 116, 56]⟩) ∧ w' = w := by
  go_enter Tryz.func133, Tryz.ntmps133
  go_wp2
  go_ret
  exact ⟨rfl, rfl⟩
set_option maxRecDepth 100000 in
theorem ncType7 (w : World) : Calls Tryz.prog 4 #[.int .i64 7] w fun e w' => e = .returned (.string ⟨#[85, 73, 110, 116, 56]⟩) ∧ Keeps (fun _ => False) w w' := by
  have hW := Whole.new w 100 #[.slice none 0 0]
  have hme : (method 437 106 (.agg #[.iface 98 (.pointer (some ⟨w.heap.size, 0, none⟩)), .func (.func 22) #[] #[], .func (.func 23) #[] #[]]) "Type").run Tryz.prog (w.alloc (.cells #[.slice none 0 0] 100)) = .ok (133, .slice none 0 0) (w.alloc (.cells #[.slice none 0 0] 100)) :=
    (method_emb iN7 Tryz.underlying106 rfl rfl (fun w => by simp [isAgg, run_underlying Tryz.underlying104]) rfl).trans (mT7 hW _)
  have HC := Lib.hid (col7 w)
  have HT := Lib.hid (fun w x => tName7 w x)
  clear hW
  go_enter Tryz.func4, Tryz.ntmps4
  go_wp2_with fail
  refine HC.out.mono ?_
  unfold nv7
  rintro e w1 ⟨rfl, rfl⟩
  go_wp2_with fail
  refine (HT.out _ _).mono ?_
  rintro e w2 ⟨rfl, rfl⟩
  go_wp2_with fail
  go_ret
  exact ⟨rfl, (Keeps.refl _ _).alloc _⟩
theorem iT8 : (Tryz.prog.info? 107).map (fun i => (i.methods.find? (·.name == "Type")).map (fun m => (m.path.toList.length, m.func))) = some (some (0, some (142, false))) := by kernel_rfl
theorem mT8 {w : World} {g : Nat} {x : Value} (hW : Whole w g 109 #[x]) (fuel : Nat) : (method (fuel + 1) 107 (.pointer (some ⟨g, 0, none⟩)) "Type").run Tryz.prog w = .ok (142, x) w := by
  obtain ⟨i, m, h1, h2, h3, h4⟩ := method_row iT8
  exact method_val h1 h2 h3 h4 Tryz.underlying107 (by have h0 : w.cell? ⟨g, 0, none⟩ = some x := hW.cell 0; go_simp)
theorem iN8 : (Tryz.prog.info? 115).map (fun i => (i.methods.find? (·.name == "Type")).map (fun m => (m.path.toList.map (fun s => (s.struct, s.index, s.deref)), m.func))) = some (some ([(115, 0, false)], none)) := by kernel_rfl
set_option maxRecDepth 10000 in
theorem tName8 (w : World) (x : Value) : Calls Tryz.prog 142 #[x] w fun e w' => e = .returned (.string ⟨#[85, 73, 110, 116, 49, 54]⟩) ∧ w' = w := by
  go_enter Tryz.func142, Tryz.ntmps142
  go_wp2
  go_ret
  exact ⟨rfl, rfl⟩
set_option maxRecDepth 100000 in
theorem ncType8 (w : World) : Calls Tryz.prog 4 #[.int .i64 8] w fun e w' => e = .returned (.string ⟨#[85, 73, 110, 116, 49, 54]⟩) ∧ Keeps (fun _ => False) w w' := by
  have hW := Whole.new w 109 #[.slice none 0 0]
  have hme : (method 437 115 (.agg #[.iface 107 (.pointer (some ⟨w.heap.size, 0, none⟩)), .func (.func 24) #[] #[], .func (.func 25) #[] #[]]) "Type").run Tryz.prog (w.alloc (.cells #[.slice none 0 0] 109)) = .ok (142, .slice none 0 0) (w.alloc (.cells #[.slice none 0 0] 109)) :=
    (method_emb iN8 Tryz.underlying115 rfl rfl (fun w => by simp [isAgg, run_underlying Tryz.underlying113]) rfl).trans (mT8 hW _)
  have HC := Lib.hid (col8 w)
  have HT := Lib.hid (fun w x => tName8 w x)
  clear hW
  go_enter Tryz.func4, Tryz.ntmps4
  go_wp2_with fail
  refine HC.out.mono ?_
  unfold nv8
  rintro e w1 ⟨rfl, rfl⟩
  go_wp2_with fail
  refine (HT.out _ _).mono ?_
  rintro e w2 ⟨rfl, rfl⟩
  go_wp2_with fail
  go_ret
  exact ⟨rfl, (Keeps.refl _ _).alloc _⟩
theorem iT9 : (Tryz.prog.info? 116).map (fun i => (i.methods.find? (·.name == "Type")).map (fun m => (m.path.toList.length, m.func))) = some (some (0, some (151, false))) := by kernel_rfl
theorem mT9 {w : World} {g : Nat} {x : Value} (hW : Whole w g 118 #[x]) (fuel : Nat) : (method (fuel + 1) 116 (.pointer (some ⟨g, 0, none⟩)) "Type").run Tryz.prog w = .ok (151, x) w := by
  obtain ⟨i, m, h1, h2, h3, h4⟩ := method_row iT9
  exact method_val h1 h2 h3 h4 Tryz.underlying116 (by have h0 : w.cell? ⟨g, 0, none⟩ = some x := hW.cell 0; go_simp)
theorem iN9 : (Tryz.prog.info? 124).map (fun i => (i.methods.find? (·.name == "Type")).map (fun m => (m.path.toList.map (fun s => (s.struct, s.index, s.deref)), m.func))) = some (some ([(124, 0, false)], none)) := by kernel_rfl
set_option maxRecDepth 10000 in
theorem tName9 (w : World) (x : Value) : Calls Tryz.prog 151 #[x] w fun e w' => e = .returned (.string ⟨#[85, 73, 110, 116, 51, 50]⟩) ∧ w' = w := by
  go_enter Tryz.func151, Tryz.ntmps151
  go_wp2
  go_ret
  exact ⟨rfl, rfl⟩
set_option maxRecDepth 100000 in
theorem ncType9 (w : World) : Calls Tryz.prog 4 #[.int .i64 9] w fun e w' => e = .returned (.string ⟨#[85, 73, 110, 116, 51, 50]⟩) ∧ Keeps (fun _ => False) w w' := by
  have hW := Whole.new w 118 #[.slice none 0 0]
  have hme : (method 437 124 (.agg #[.iface 116 (.pointer (some ⟨w.heap.size, 0, none⟩)), .func (.func 26) #[] #[], .func (.func 27) #[] #[]]) "Type").run Tryz.prog (w.alloc (.cells #[.slice none 0 0] 118)) = .ok (151, .slice none 0 0) (w.alloc (.cells #[.slice none 0 0] 118)) :=
    (method_emb iN9 Tryz.underlying124 rfl rfl (fun w => by simp [isAgg, run_underlying Tryz.underlying122]) rfl).trans (mT9 hW _)
  have HC := Lib.hid (col9 w)
  have HT := Lib.hid (fun w x => tName9 w x)
  clear hW
  go_enter Tryz.func4, Tryz.ntmps4
  go_wp2_with fail
  refine HC.out.mono ?_
  unfold nv9
  rintro e w1 ⟨rfl, rfl⟩
  go_wp2_with fail
  refine (HT.out _ _).mono ?_
  rintro e w2 ⟨rfl, rfl⟩
  go_wp2_with fail
  go_ret
  exact ⟨rfl, (Keeps.refl _ _).alloc _⟩
theorem iT10 : (Tryz.prog.info? 125).map (fun i => (i.methods.find? (·.name == "Type")).map (fun m => (m.path.toList.length, m.func))) = some (some (0, some (160, false))) := by kernel_rfl
theorem mT10 {w : World} {g : Nat} {x : Value} (hW : Whole w g 127 #[x]) (fuel : Nat) : (method (fuel + 1) 125 (.pointer (some ⟨g, 0, none⟩)) "Type").run Tryz.prog w = .ok (160, x) w := by
  obtain ⟨i, m, h1, h2, h3, h4⟩ := method_row iT10
  exact method_val h1 h2 h3 h4 Tryz.underlying125 (by have h0 : w.cell? ⟨g, 0, none⟩ = some x := hW.cell 0; go_simp)
theorem iN10 : (Tryz.prog.info? 133).map (fun i => (i.methods.find? (·.name == "Type")).map (fun m => (m.path.toList.map (fun s => (s.struct, s.index, s.deref)), m.func))) = some (some ([(133, 0, false)], none)) := by kernel_rfl
set_option maxRecDepth 10000 in
theorem tName10 (w : World) (x : Value) : Calls Tryz.prog 160 #[x] w fun e w' => e = .returned (.string ⟨#[85, 73, 110, 116, 54, 52]⟩) ∧ w' = w := by
  go_enter Tryz.func160, Tryz.ntmps160
  go_wp2
  go_ret
  exact ⟨rfl, rfl⟩
set_option maxRecDepth 100000 in
theorem ncType10 (w : World) : Calls Tryz.prog 4 #[.int .i64 10] w fun e w' => e = .returned (.string ⟨#[85, 73, 110, 116, 54, 52]⟩) ∧ Keeps (fun _ => False) w w' := by
  have hW := Whole.new w 127 #[.slice none 0 0]
  have hme : (method 437 133 (.agg #[.iface 125 (.pointer (some ⟨w.heap.size, 0, none⟩)), .func (.func 28) #[] #[], .func (.func 29) #[] #[]]) "Type").run Tryz.prog (w.alloc (.cells #[.slice none 0 0] 127)) = .ok (160, .slice none 0 0) (w.alloc (.cells #[.slice none 0 0] 127)) :=
    (method_emb iN10 Tryz.underlying133 rfl rfl (fun w => by simp [isAgg, run_underlying Tryz.underlying131]) rfl).trans (mT10 hW _)
  have HC := Lib.hid (col10 w)
  have HT := Lib.hid (fun w x => tName10 w x)
  clear hW
  go_enter Tryz.func4, Tryz.ntmps4
  go_wp2_with fail
  refine HC.out.mono ?_
  unfold nv10
  rintro e w1 ⟨rfl, rfl⟩
  go_wp2_with fail
  refine (HT.out _ _).mono ?_
  rintro e w2 ⟨rfl, rfl⟩
  go_wp2_with fail
  go_ret
  exact ⟨rfl, (Keeps.refl _ _).alloc _⟩
theorem iT11 : (Tryz.prog.info? 134).map (fun i => (i.methods.find? (·.name == "Type")).map (fun m => (m.path.toList.length, m.func))) = some (some (0, some (169, false))) := by kernel_rfl
theorem mT11 {w : World} {g : Nat} {x : Value} (hW : Whole w g 136 #[x]) (fuel : Nat) : (method (fuel + 1) 134 (.pointer (some ⟨g, 0, none⟩)) "Type").run Tryz.prog w = .ok (169, x) w := by
  obtain ⟨i, m, h1, h2, h3, h4⟩ := method_row iT11
  exact method_val h1 h2 h3 h4 Tryz.underlying134 (by have h0 : w.cell? ⟨g, 0, none⟩ = some x := hW.cell 0; go_simp)
theorem iN11 : (Tryz.prog.info? 141).map (fun i => (i.methods.find? (·.name == "Type")).map (fun m => (m.path.toList.map (fun s => (s.struct, s.index, s.deref)), m.func))) = some (some ([(141, 0, false)], none)) := by kernel_rfl
set_option maxRecDepth 10000 in
theorem tName11 (w : World) (x : Value) : Calls Tryz.prog 169 #[x] w fun e w' => e = .returned (.string ⟨#[85, 73, 110, 116, 49, 50, 56]⟩) ∧ w' = w := by
  go_enter Tryz.func169, Tryz.ntmps169
  go_wp2
  go_ret
  exact ⟨rfl, rfl⟩
set_option maxRecDepth 100000 in
theorem ncType11 (w : World) : Calls Tryz.prog 4 #[.int .i64 11] w fun e w' => e = .returned (.string ⟨#[85, 73, 110, 116, 49, 50, 56]⟩) ∧ Keeps (fun _ => False) w w' := by
  have hW := Whole.new w 136 #[.slice none 0 0]
  have hme : (method 437 141 (.agg #[.iface 134 (.pointer (some ⟨w.heap.size, 0, none⟩)), .func (.func 16) #[] #[], .func (.func 31) #[] #[]]) "Type").run Tryz.prog (w.alloc (.cells #[.slice none 0 0] 136)) = .ok (169, .slice none 0 0) (w.alloc (.cells #[.slice none 0 0] 136)) :=
    (method_emb iN11 Tryz.underlying141 rfl rfl (fun w => by simp [isAgg, run_underlying Tryz.underlying139]) rfl).trans (mT11 hW _)
  have HC := Lib.hid (col11 w)
  have HT := Lib.hid (fun w x => tName11 w x)
  clear hW
  go_enter Tryz.func4, Tryz.ntmps4
  go_wp2_with fail
  refine HC.out.mono ?_
  unfold nv11
  rintro e w1 ⟨rfl, rfl⟩
  go_wp2_with fail
  refine (HT.out _ _).mono ?_
  rintro e w2 ⟨rfl, rfl⟩
  go_wp2_with fail
  go_ret
  exact ⟨rfl, (Keeps.refl _ _).alloc _⟩
theorem iT12 : (Tryz.prog.info? 142).map (fun i => (i.methods.find? (·.name == "Type")).map (fun m => (m.path.toList.length, m.func))) = some (some (0, some (178, false))) := by kernel_rfl
theorem mT12 {w : World} {g : Nat} {x : Value} (hW : Whole w g 144 #[x]) (fuel : Nat) : (method (fuel + 1) 142 (.pointer (some ⟨g, 0, none⟩)) "Type").run Tryz.prog w = .ok (178, x) w := by
  obtain ⟨i, m, h1, h2, h3, h4⟩ := method_row iT12
  exact method_val h1 h2 h3 h4 Tryz.underlying142 (by have h0 : w.cell? ⟨g, 0, none⟩ = some x := hW.cell 0; go_simp)
theorem iN12 : (Tryz.prog.info? 151).map (fun i => (i.methods.find? (·.name == "Type")).map (fun m => (m.path.toList.map (fun s => (s.struct, s.index, s.deref)), m.func))) = some (some ([(151, 0, false)], none)) := by kernel_rfl
set_option maxRecDepth 10000 in
theorem tName12 (w : World) (x : Value) : Calls Tryz.prog 178 #[x] w fun e w' => e = .returned (.string ⟨#[85, 73, 110, 116, 50, 53, 54]⟩) ∧ w' = w := by
  go_enter Tryz.func178, Tryz.ntmps178
  go_wp2
  go_ret
  exact ⟨rfl, rfl⟩
set_option maxRecDepth 100000 in
theorem ncType12 (w : World) : Calls Tryz.prog 4 #[.int .i64 12] w fun e w' => e = .returned (.string ⟨#[85, 73, 110, 116, 50, 53, 54]⟩) ∧ Keeps (fun _ => False) w w' := by
  have hW := Whole.new w 144 #[.slice none 0 0]
  have hme : (method 437 151 (.agg #[.iface 142 (.pointer (some ⟨w.heap.size, 0, none⟩)), .func (.func 32) #[] #[], .func (.func 33) #[] #[]]) "Type").run Tryz.prog (w.alloc (.cells #[.slice none 0 0] 144)) = .ok (178, .slice none 0 0) (w.alloc (.cells #[.slice none 0 0] 144)) :=
    (method_emb iN12 Tryz.underlying151 rfl rfl (fun w => by simp [isAgg, run_underlying Tryz.underlying149]) rfl).trans (mT12 hW _)
  have HC := Lib.hid (col12 w)
  have HT := Lib.hid (fun w x => tName12 w x)
  clear hW
  go_enter Tryz.func4, Tryz.ntmps4
  go_wp2_with fail
  refine HC.out.mono ?_
  unfold nv12
  rintro e w1 ⟨rfl, rfl⟩
  go_wp2_with fail
  refine (HT.out _ _).mono ?_
  rintro e w2 ⟨rfl, rfl⟩
  go_wp2_with fail
  go_ret
  exact ⟨rfl, (Keeps.refl _ _).alloc _⟩
theorem iT13 : (Tryz.prog.info? 152).map (fun i => (i.methods.find? (·.name == "Type")).map (fun m => (m.path.toList.length, m.func))) = some (some (0, some (187, false))) := by kernel_rfl
theorem mT13 {w : World} {g : Nat} {x : Value} (hW : Whole w g 154 #[x]) (fuel : Nat) : (method (fuel + 1) 152 (.pointer (some ⟨g, 0, none⟩)) "Type").run Tryz.prog w = .ok (187, x) w := by
  obtain ⟨i, m, h1, h2, h3, h4⟩ := method_row iT13
  exact method_val h1 h2 h3 h4 Tryz.underlying152 (by have h0 : w.cell? ⟨g, 0, none⟩ = some x := hW.cell 0; go_simp)
theorem iN13 : (Tryz.prog.info? 160).map (fun i => (i.methods.find? (·.name == "Type")).map (fun m => (m.path.toList.map (fun s => (s.struct, s.index, s.deref)), m.func))) = some (some ([(160, 0, false)], none)) := by kernel_rfl
set_option maxRecDepth 10000 in
theorem tName13 (w : World) (x : Value) : Calls Tryz.prog 187 #[x] w fun e w' => e = .returned (.string ⟨#[70, 108, 111, 97, 116, 51, 50]⟩) ∧ w' = w := by
  go_enter Tryz.func187, Tryz.ntmps187
  go_wp2
  go_ret
  exact ⟨rfl, rfl⟩
set_option maxRecDepth 100000 in
theorem ncType13 (w : World) : Calls Tryz.prog 4 #[.int .i64 13] w fun e w' => e = .returned (.string ⟨#[70, 108, 111, 97, 116, 51, 50]⟩) ∧ Keeps (fun _ => False) w w' := by
  have hW := Whole.new w 154 #[.slice none 0 0]
  have hme : (method 437 160 (.agg #[.iface 152 (.pointer (some ⟨w.heap.size, 0, none⟩)), .func (.func 34) #[] #[], .func (.func 35) #[] #[]]) "Type").run Tryz.prog (w.alloc (.cells #[.slice none 0 0] 154)) = .ok (187, .slice none 0 0) (w.alloc (.cells #[.slice none 0 0] 154)) :=
    (method_emb iN13 Tryz.underlying160 rfl rfl (fun w => by simp [isAgg, run_underlying Tryz.underlying158]) rfl).trans (mT13 hW _)
  have HC := Lib.hid (col13 w)
  have HT := Lib.hid (fun w x => tName13 w x)
  clear hW
  go_enter Tryz.func4, Tryz.ntmps4
  go_wp2_with fail
  refine HC.out.mono ?_
  unfold nv13
  rintro e w1 ⟨rfl, rfl⟩
  go_wp2_with fail
  refine (HT.out _ _).mono ?_
  rintro e w2 ⟨rfl, rfl⟩
  go_wp2_with fail
  go_ret
  exact ⟨rfl, (Keeps.refl _ _).alloc _⟩
theorem iT14 : (Tryz.prog.info? 161).map (fun i => (i.methods.find? (·.name == "Type")).map (fun m => (m.path.toList.length, m.func))) = some (some (0, some (196, false))) := by kernel_rfl
theorem mT14 {w : World} {g : Nat} {x : Value} (hW : Whole w g 163 #[x]) (fuel : Nat) : (method (fuel + 1) 161 (.pointer (some ⟨g, 0, none⟩)) "Type").run Tryz.prog w = .ok (196, x) w := by
  obtain ⟨i, m, h1, h2, h3, h4⟩ := method_row iT14
  exact method_val h1 h2 h3 h4 Tryz.underlying161 (by have h0 : w.cell? ⟨g, 0, none⟩ = some x := hW.cell 0; go_simp)
theorem iN14 : (Tryz.prog.info? 172).map (fun i => (i.methods.find? (·.name == "Type")).map (fun m => (m.path.toList.map (fun s => (s.struct, s.index, s.deref)), m.func))) = some (some ([(172, 0, false)], none)) := by kernel_rfl
set_option maxRecDepth 10000 in
theorem tName14 (w : World) (x : Value) : Calls Tryz.prog 196 #[x] w fun e w' => e = .returned (.string ⟨#[70, 108, 111, 97, 116, 54, 52]⟩) ∧ w' = w := by
  go_enter Tryz.func196, Tryz.ntmps196
  go_wp2
  go_ret
  exact ⟨rfl, rfl⟩
set_option maxRecDepth 100000 in
theorem ncType14 (w : World) : Calls Tryz.prog 4 #[.int .i64 14] w fun e w' => e = .returned (.string ⟨#[70, 108, 111, 97, 116, 54, 52]⟩) ∧ Keeps (fun _ => False) w w' := by
  have hW := Whole.new w 163 #[.slice none 0 0]
  have hme : (method 437 172 (.agg #[.iface 161 (.pointer (some ⟨w.heap.size, 0, none⟩)), .func (.func 36) #[] #[], .func (.func 38) #[] #[]]) "Type").run Tryz.prog (w.alloc (.cells #[.slice none 0 0] 163)) = .ok (196, .slice none 0 0) (w.alloc (.cells #[.slice none 0 0] 163)) :=
    (method_emb iN14 Tryz.underlying172 rfl rfl (fun w => by simp [isAgg, run_underlying Tryz.underlying170]) rfl).trans (mT14 hW _)
  have HC := Lib.hid (col14 w)
  have HT := Lib.hid (fun w x => tName14 w x)
  clear hW
  go_enter Tryz.func4, Tryz.ntmps4
  go_wp2_with fail
  refine HC.out.mono ?_
  unfold nv14
  rintro e w1 ⟨rfl, rfl⟩
  go_wp2_with fail
  refine (HT.out _ _).mono ?_
  rintro e w2 ⟨rfl, rfl⟩
  go_wp2_with fail
  go_ret
  exact ⟨rfl, (Keeps.refl _ _).alloc _⟩
theorem iT15 : (Tryz.prog.info? 173).map (fun i => (i.methods.find? (·.name == "Type")).map (fun m => (m.path.toList.length, m.func))) = some (some (0, some (208, false))) := by kernel_rfl
theorem mT15 {w : World} {g : Nat} {x : Value} (hW : Whole w g 174 #[x]) (fuel : Nat) : (method (fuel + 1) 173 (.pointer (some ⟨g, 0, none⟩)) "Type").run Tryz.prog w = .ok (208, x) w := by
  obtain ⟨i, m, h1, h2, h3, h4⟩ := method_row iT15
  exact method_val h1 h2 h3 h4 Tryz.underlying173 (by have h0 : w.cell? ⟨g, 0, none⟩ = some x := hW.cell 0; go_simp)
theorem iN15 : (Tryz.prog.info? 160).map (fun i => (i.methods.find? (·.name == "Type")).map (fun m => (m.path.toList.map (fun s => (s.struct, s.index, s.deref)), m.func))) = some (some ([(160, 0, false)], none)) := by kernel_rfl
set_option maxRecDepth 10000 in
theorem tName15 (w : World) (x : Value) : Calls Tryz.prog 208 #[x] w fun e w' => e = .returned (.string ⟨#[66, 70, 108, 111, 97, 116, 49, 54]⟩) ∧ w' = w := by
  go_enter Tryz.func208, Tryz.ntmps208
  go_wp2
  go_ret
  exact ⟨rfl, rfl⟩
set_option maxRecDepth 100000 in
theorem ncType15 (w : World) : Calls Tryz.prog 4 #[.int .i64 15] w fun e w' => e = .returned (.string ⟨#[66, 70, 108, 111, 97, 116, 49, 54]⟩) ∧ Keeps (fun _ => False) w w' := by
  have hW := Whole.new w 174 #[.slice none 0 0]
  have hme : (method 437 160 (.agg #[.iface 173 (.pointer (some ⟨w.heap.size, 0, none⟩)), .func (.func 34) #[] #[], .func (.func 35) #[] #[]]) "Type").run Tryz.prog (w.alloc (.cells #[.slice none 0 0] 174)) = .ok (208, .slice none 0 0) (w.alloc (.cells #[.slice none 0 0] 174)) :=
    (method_emb iN15 Tryz.underlying160 rfl rfl (fun w => by simp [isAgg, run_underlying Tryz.underlying158]) rfl).trans (mT15 hW _)
  have HC := Lib.hid (col15 w)
  have HT := Lib.hid (fun w x => tName15 w x)
  clear hW
  go_enter Tryz.func4, Tryz.ntmps4
  go_wp2_with fail
  refine HC.out.mono ?_
  unfold nv15
  rintro e w1 ⟨rfl, rfl⟩
  go_wp2_with fail
  refine (HT.out _ _).mono ?_
  rintro e w2 ⟨rfl, rfl⟩
  go_wp2_with fail
  go_ret
  exact ⟨rfl, (Keeps.refl _ _).alloc _⟩
theorem iT16 : (Tryz.prog.info? 175).map (fun i => (i.methods.find? (·.name == "Type")).map (fun m => (m.path.toList.length, m.func))) = some (some (0, some (214, false))) := by kernel_rfl
theorem mT16 {w : World} {g : Nat} {x : Value} (hW : Whole w g 177 #[x]) (fuel : Nat) : (method (fuel + 1) 175 (.pointer (some ⟨g, 0, none⟩)) "Type").run Tryz.prog w = .ok (214, x) w := by
  obtain ⟨i, m, h1, h2, h3, h4⟩ := method_row iT16
  exact method_val h1 h2 h3 h4 Tryz.underlying175 (by have h0 : w.cell? ⟨g, 0, none⟩ = some x := hW.cell 0; go_simp)
theorem iN16 : (Tryz.prog.info? 183).map (fun i => (i.methods.find? (·.name == "Type")).map (fun m => (m.path.toList.map (fun s => (s.struct, s.index, s.deref)), m.func))) = some (some ([(183, 0, false)], none)) := by kernel_rfl
set_option maxRecDepth 10000 in
theorem tName16 (w : World) (x : Value) : Calls Tryz.prog 214 #[x] w fun e w' => e = .returned (.string ⟨#[66, 111, 111, 108]⟩) ∧ w' = w := by
  go_enter Tryz.func214, Tryz.ntmps214
  go_wp2
  go_ret
  exact ⟨rfl, rfl⟩
set_option maxRecDepth 100000 in
theorem ncType16 (w : World) : Calls Tryz.prog 4 #[.int .i64 16] w fun e w' => e = .returned (.string ⟨#[66, 111, 111, 108]⟩) ∧ Keeps (fun _ => False) w w' := by
  have hW := Whole.new w 177 #[.slice none 0 0]
  have hme : (method 437 183 (.agg #[.iface 175 (.pointer (some ⟨w.heap.size, 0, none⟩)), .func (.func 40) #[] #[], .func (.func 41) #[] #[]]) "Type").run Tryz.prog (w.alloc (.cells #[.slice none 0 0] 177)) = .ok (214, .slice none 0 0) (w.alloc (.cells #[.slice none 0 0] 177)) :=
    (method_emb iN16 Tryz.underlying183 rfl rfl (fun w => by simp [isAgg, run_underlying Tryz.underlying181]) rfl).trans (mT16 hW _)
  have HC := Lib.hid (col16 w)
  have HT := Lib.hid (fun w x => tName16 w x)
  clear hW
  go_enter Tryz.func4, Tryz.ntmps4
  go_wp2_with fail
  refine HC.out.mono ?_
  unfold nv16
  rintro e w1 ⟨rfl, rfl⟩
  go_wp2_with fail
  refine (HT.out _ _).mono ?_
  rintro e w2 ⟨rfl, rfl⟩
  go_wp2_with fail
  go_ret
  exact ⟨rfl, (Keeps.refl _ _).alloc _⟩
theorem iT17 : (Tryz.prog.info? 184).map (fun i => (i.methods.find? (·.name == "Type")).map (fun m => (m.path.toList.length, m.func))) = some (some (0, some (223, false))) := by kernel_rfl
theorem mT17 {w : World} {g : Nat} {x : Value} (hW : Whole w g 186 #[x]) (fuel : Nat) : (method (fuel + 1) 184 (.pointer (some ⟨g, 0, none⟩)) "Type").run Tryz.prog w = .ok (223, x) w := by
  obtain ⟨i, m, h1, h2, h3, h4⟩ := method_row iT17
  exact method_val h1 h2 h3 h4 Tryz.underlying184 (by have h0 : w.cell? ⟨g, 0, none⟩ = some x := hW.cell 0; go_simp)
theorem iN17 : (Tryz.prog.info? 193).map (fun i => (i.methods.find? (·.name == "Type")).map (fun m => (m.path.toList.map (fun s => (s.struct, s.index, s.deref)), m.func))) = some (some ([(193, 0, false)], none)) := by kernel_rfl
set_option maxRecDepth 10000 in
theorem tName17 (w : World) (x : Value) : Calls Tryz.prog 223 #[x] w fun e w' => e = .returned (.string ⟨#[73, 80, 118, 52]⟩) ∧ w' = w := by
  go_enter Tryz.func223, Tryz.ntmps223
  go_wp2
  go_ret
  exact ⟨rfl, rfl⟩
set_option maxRecDepth 100000 in
theorem ncType17 (w : World) : Calls Tryz.prog 4 #[.int .i64 17] w fun e w' => e = .returned (.string ⟨#[73, 80, 118, 52]⟩) ∧ Keeps (fun _ => False) w w' := by
  have hW := Whole.new w 186 #[.slice none 0 0]
  have hme : (method 437 193 (.agg #[.iface 184 (.pointer (some ⟨w.heap.size, 0, none⟩)), .func (.func 42) #[] #[], .func (.func 43) #[] #[]]) "Type").run Tryz.prog (w.alloc (.cells #[.slice none 0 0] 186)) = .ok (223, .slice none 0 0) (w.alloc (.cells #[.slice none 0 0] 186)) :=
    (method_emb iN17 Tryz.underlying193 rfl rfl (fun w => by simp [isAgg, run_underlying Tryz.underlying191]) rfl).trans (mT17 hW _)
  have HC := Lib.hid (col17 w)
  have HT := Lib.hid (fun w x => tName17 w x)
  clear hW
  go_enter Tryz.func4, Tryz.ntmps4
  go_wp2_with fail
  refine HC.out.mono ?_
  unfold nv17
  rintro e w1 ⟨rfl, rfl⟩
  go_wp2_with fail
  refine (HT.out _ _).mono ?_
  rintro e w2 ⟨rfl, rfl⟩
  go_wp2_with fail
  go_ret
  exact ⟨rfl, (Keeps.refl _ _).alloc _⟩
theorem iT18 : (Tryz.prog.info? 194).map (fun i => (i.methods.find? (·.name == "Type")).map (fun m => (m.path.toList.length, m.func))) = some (some (0, some (232, false))) := by kernel_rfl
theorem mT18 {w : World} {g : Nat} {x : Value} (hW : Whole w g 196 #[x]) (fuel : Nat) : (method (fuel + 1) 194 (.pointer (some ⟨g, 0, none⟩)) "Type").run Tryz.prog w = .ok (232, x) w := by
  obtain ⟨i, m, h1, h2, h3, h4⟩ := method_row iT18
  exact method_val h1 h2 h3 h4 Tryz.underlying194 (by have h0 : w.cell? ⟨g, 0, none⟩ = some x := hW.cell 0; go_simp)
theorem iN18 : (Tryz.prog.info? 206).map (fun i => (i.methods.find? (·.name == "Type")).map (fun m => (m.path.toList.map (fun s => (s.struct, s.index, s.deref)), m.func))) = some (some ([(206, 0, false)], none)) := by kernel_rfl
set_option maxRecDepth 10000 in
theorem tName18 (w : World) (x : Value) : Calls Tryz.prog 232 #[x] w fun e w' => e = .returned (.string ⟨#[73, 80, 118, 54]⟩) ∧ w' = w := by
  go_enter Tryz.func232, Tryz.ntmps232
  go_wp2
  go_ret
  exact ⟨rfl, rfl⟩
set_option maxRecDepth 100000 in
theorem ncType18 (w : World) : Calls Tryz.prog 4 #[.int .i64 18] w fun e w' => e = .returned (.string ⟨#[73, 80, 118, 54]⟩) ∧ Keeps (fun _ => False) w w' := by
  have hW := Whole.new w 196 #[.slice none 0 0]
  have hme : (method 437 206 (.agg #[.iface 194 (.pointer (some ⟨w.heap.size, 0, none⟩)), .func (.func 44) #[] #[], .func (.func 46) #[] #[]]) "Type").run Tryz.prog (w.alloc (.cells #[.slice none 0 0] 196)) = .ok (232, .slice none 0 0) (w.alloc (.cells #[.slice none 0 0] 196)) :=
    (method_emb iN18 Tryz.underlying206 rfl rfl (fun w => by simp [isAgg, run_underlying Tryz.underlying204]) rfl).trans (mT18 hW _)
  have HC := Lib.hid (col18 w)
  have HT := Lib.hid (fun w x => tName18 w x)
  clear hW
  go_enter Tryz.func4, Tryz.ntmps4
  go_wp2_with fail
  refine HC.out.mono ?_
  unfold nv18
  rintro e w1 ⟨rfl, rfl⟩
  go_wp2_with fail
  refine (HT.out _ _).mono ?_
  rintro e w2 ⟨rfl, rfl⟩
  go_wp2_with fail
  go_ret
  exact ⟨rfl, (Keeps.refl _ _).alloc _⟩
theorem iT19 : (Tryz.prog.info? 207).map (fun i => (i.methods.find? (·.name == "Type")).map (fun m => (m.path.toList.length, m.func))) = some (some (0, some (241, false))) := by kernel_rfl
theorem mT19 {w : World} {g : Nat} {x : Value} (hW : Whole w g 209 #[x]) (fuel : Nat) : (method (fuel + 1) 207 (.pointer (some ⟨g, 0, none⟩)) "Type").run Tryz.prog w = .ok (241, x) w := by
  obtain ⟨i, m, h1, h2, h3, h4⟩ := method_row iT19
  exact method_val h1 h2 h3 h4 Tryz.underlying207 (by have h0 : w.cell? ⟨g, 0, none⟩ = some x := hW.cell 0; go_simp)
theorem iN19 : (Tryz.prog.info? 216).map (fun i => (i.methods.find? (·.name == "Type")).map (fun m => (m.path.toList.map (fun s => (s.struct, s.index, s.deref)), m.func))) = some (some ([(216, 0, false)], none)) := by kernel_rfl
set_option maxRecDepth 10000 in
theorem tName19 (w : World) (x : Value) : Calls Tryz.prog 241 #[x] w fun e w' => e = .returned (.string ⟨#[85, 85, 73, 68]⟩) ∧ w' = w := by
  go_enter Tryz.func241, Tryz.ntmps241
  go_wp2
  go_ret
  exact ⟨rfl, rfl⟩
set_option maxRecDepth 100000 in
theorem ncType19 (w : World) : Calls Tryz.prog 4 #[.int .i64 19] w fun e w' => e = .returned (.string ⟨#[85, 85, 73, 68]⟩) ∧ Keeps (fun _ => False) w w' := by
  have hW := Whole.new w 209 #[.slice none 0 0]
  have hme : (method 437 216 (.agg #[.iface 207 (.pointer (some ⟨w.heap.size, 0, none⟩)), .func (.func 48) #[] #[], .func (.func 49) #[] #[]]) "Type").run Tryz.prog (w.alloc (.cells #[.slice none 0 0] 209)) = .ok (241, .slice none 0 0) (w.alloc (.cells #[.slice none 0 0] 209)) :=
    (method_emb iN19 Tryz.underlying216 rfl rfl (fun w => by simp [isAgg, run_underlying Tryz.underlying214]) rfl).trans (mT19 hW _)
  have HC := Lib.hid (col19 w)
  have HT := Lib.hid (fun w x => tName19 w x)
  clear hW
  go_enter Tryz.func4, Tryz.ntmps4
  go_wp2_with fail
  refine HC.out.mono ?_
  unfold nv19
  rintro e w1 ⟨rfl, rfl⟩
  go_wp2_with fail
  refine (HT.out _ _).mono ?_
  rintro e w2 ⟨rfl, rfl⟩
  go_wp2_with fail
  go_ret
  exact ⟨rfl, (Keeps.refl _ _).alloc _⟩
theorem iT20 : (Tryz.prog.info? 217).map (fun i => (i.methods.find? (·.name == "Type")).map (fun m => (m.path.toList.length, m.func))) = some (some (0, some (250, false))) := by kernel_rfl
theorem mT20 {w : World} {g : Nat} {x : Value} (hW : Whole w g 219 #[x]) (fuel : Nat) : (method (fuel + 1) 217 (.pointer (some ⟨g, 0, none⟩)) "Type").run Tryz.prog w = .ok (250, x) w := by
  obtain ⟨i, m, h1, h2, h3, h4⟩ := method_row iT20
  exact method_val h1 h2 h3 h4 Tryz.underlying217 (by have h0 : w.cell? ⟨g, 0, none⟩ = some x := hW.cell 0; go_simp)
theorem iN20 : (Tryz.prog.info? 226).map (fun i => (i.methods.find? (·.name == "Type")).map (fun m => (m.path.toList.map (fun s => (s.struct, s.index, s.deref)), m.func))) = some (some ([(226, 0, false)], none)) := by kernel_rfl
set_option maxRecDepth 10000 in
theorem tName20 (w : World) (x : Value) : Calls Tryz.prog 250 #[x] w fun e w' => e = .returned (.string ⟨#[69, 110, 117, 109, 56]⟩) ∧ w' = w := by
  go_enter Tryz.func250, Tryz.ntmps250
  go_wp2
  go_ret
  exact ⟨rfl, rfl⟩
set_option maxRecDepth 100000 in
theorem ncType20 (w : World) : Calls Tryz.prog 4 #[.int .i64 20] w fun e w' => e = .returned (.string ⟨#[69, 110, 117, 109, 56]⟩) ∧ Keeps (fun _ => False) w w' := by
  have hW := Whole.new w 219 #[.slice none 0 0]
  have hme : (method 437 226 (.agg #[.iface 217 (.pointer (some ⟨w.heap.size, 0, none⟩)), .func (.func 50) #[] #[], .func (.func 51) #[] #[]]) "Type").run Tryz.prog (w.alloc (.cells #[.slice none 0 0] 219)) = .ok (250, .slice none 0 0) (w.alloc (.cells #[.slice none 0 0] 219)) :=
    (method_emb iN20 Tryz.underlying226 rfl rfl (fun w => by simp [isAgg, run_underlying Tryz.underlying224]) rfl).trans (mT20 hW _)
  have HC := Lib.hid (col20 w)
  have HT := Lib.hid (fun w x => tName20 w x)
  clear hW
  go_enter Tryz.func4, Tryz.ntmps4
  go_wp2_with fail
  refine HC.out.mono ?_
  unfold nv20
  rintro e w1 ⟨rfl, rfl⟩
  go_wp2_with fail
  refine (HT.out _ _).mono ?_
  rintro e w2 ⟨rfl, rfl⟩
  go_wp2_with fail
  go_ret
  exact ⟨rfl, (Keeps.refl _ _).alloc _⟩
theorem iT21 : (Tryz.prog.info? 227).map (fun i => (i.methods.find? (·.name == "Type")).map (fun m => (m.path.toList.length, m.func))) = some (some (0, some (259, false))) := by kernel_rfl
theorem mT21 {w : World} {g : Nat} {x : Value} (hW : Whole w g 229 #[x]) (fuel : Nat) : (method (fuel + 1) 227 (.pointer (some ⟨g, 0, none⟩)) "Type").run Tryz.prog w = .ok (259, x) w := by
  obtain ⟨i, m, h1, h2, h3, h4⟩ := method_row iT21
  exact method_val h1 h2 h3 h4 Tryz.underlying227 (by have h0 : w.cell? ⟨g, 0, none⟩ = some x := hW.cell 0; go_simp)
theorem iN21 : (Tryz.prog.info? 236).map (fun i => (i.methods.find? (·.name == "Type")).map (fun m => (m.path.toList.map (fun s => (s.struct, s.index, s.deref)), m.func))) = some (some ([(236, 0, false)], none)) := by kernel_rfl
set_option maxRecDepth 10000 in
theorem tName21 (w : World) (x : Value) : Calls Tryz.prog 259 #[x] w fun e w' => e = .returned (.string ⟨#[69, 110, 117, 109, 49, 54]⟩) ∧ w' = w := by
  go_enter Tryz.func259, Tryz.ntmps259
  go_wp2
  go_ret
  exact ⟨rfl, rfl⟩
set_option maxRecDepth 100000 in
theorem ncType21 (w : World) : Calls Tryz.prog 4 #[.int .i64 21] w fun e w' => e = .returned (.string ⟨#[69, 110, 117, 109, 49, 54]⟩) ∧ Keeps (fun _ => False) w w' := by
  have hW := Whole.new w 229 #[.slice none 0 0]
  have hme : (method 437 236 (.agg #[.iface 227 (.pointer (some ⟨w.heap.size, 0, none⟩)), .func (.func 52) #[] #[], .func (.func 53) #[] #[]]) "Type").run Tryz.prog (w.alloc (.cells #[.slice none 0 0] 229)) = .ok (259, .slice none 0 0) (w.alloc (.cells #[.slice none 0 0] 229)) :=
    (method_emb iN21 Tryz.underlying236 rfl rfl (fun w => by simp [isAgg, run_underlying Tryz.underlying234]) rfl).trans (mT21 hW _)
  have HC := Lib.hid (col21 w)
  have HT := Lib.hid (fun w x => tName21 w x)
  clear hW
  go_enter Tryz.func4, Tryz.ntmps4
  go_wp2_with fail
  refine HC.out.mono ?_
  unfold nv21
  rintro e w1 ⟨rfl, rfl⟩
  go_wp2_with fail
  refine (HT.out _ _).mono ?_
  rintro e w2 ⟨rfl, rfl⟩
  go_wp2_with fail
  go_ret
  exact ⟨rfl, (Keeps.refl _ _).alloc _⟩
end Go.Proofs.YtpbnhhfpbadhjaaGreatDoor
