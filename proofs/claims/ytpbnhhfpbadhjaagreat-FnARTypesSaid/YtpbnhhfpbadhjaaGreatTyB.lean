/- The types of columns: what a column of an interface answers to Type. Conditions: the column's own answer in the world in which it lies. -/
import Derived.Test.YtpbnhhfpbadhjaaGreatTyA
import Derived.Test.YtpbnhhfpbadhjaaGreatMt
namespace Go.Proofs.YtpbnhhfpbadhjaaGreat
open Go.RowKit Go.Lib
set_option linter.unusedVariables false
/-- A column that answers s to Type, in its world and in every one in which its memory is kept. -/
def HasTy (w0 : World) (v : Value) (s : ByteArray) : Prop := ∃ (T : TypeId) (p : Value) (f : FuncId) (recv : Value), v = .iface T p ∧ (∀ args w', (callFunc f args).run Tryz.prog w' = .ok (.enter f args) w') ∧ ∀ w, Keeps (fun _ => False) w0 w → (∀ fuel, (method (fuel + 1) T p "Type").run Tryz.prog w = .ok (f, recv) w) ∧
    Calls Tryz.prog f #[recv] w fun e w' => e = .returned (.string s) ∧ Keeps (fun _ => False) w w'
theorem HasTy.keeps {w w' : World} {v : Value} {s : ByteArray} (h : HasTy w v s) (K : Keeps (fun _ => False) w w') : HasTy w' v s := by
  obtain ⟨T, p, f, r, e, hf, h⟩ := h
  exact ⟨T, p, f, r, e, hf, fun w2 K2 => h w2 (K.trans K2 (fun _ _ h => h))⟩
abbrev TyRes (w : World) (s : ByteArray) (e : Ending) (w' : World) : Prop := e = .returned (.string s) ∧ Keeps (fun _ => False) w w'
theorem ty_val {P : Program} {fuel : Nat} {t elem : TypeId} {i : TypeInfo} {m : _} {name : String} {f : FuncId} {w : World} {v : Value} (hi : P.info? t = some i) (hm : i.methods.find? (·.name == name) = some m) (hp : m.path = #[]) (hf : m.func = some (f, false))
    (hu : P.underlying t = some (.slice elem)) : (method (fuel + 1) t v name).run P w = .ok (f, v) w := by
  unfold method
  simp only [Sem.run_bind, run_typeInfo w hi, Result.andThen_ok, hm, hp, hf, follow, Sem.run_pure, receiverAt, run_underlying hu, Place.get, Array.isEmpty_empty, if_true, List.toList_toArray]
theorem iTyStr : (Tryz.prog.info? 56).map (fun i => (i.methods.find? (·.name == "Type")).map (fun m => (m.path.toList.length, m.func))) = some (some (0, some (145, false))) := by kernel_rfl
theorem fTyStr (args : Array Value) (w : World) : (callFunc 145 args).run Tryz.prog w = .ok (.enter 145 args) w := by kernel_rfl
theorem zTyStr : (Tryz.prog.info? 59).map (·.size) = some 2 := by kernel_rfl
theorem mTyStr {w : World} {g : Nat} {x y : Value} (hW : Whole w g 59 #[x, y]) (fuel : Nat) : (method (fuel + 1) 56 (.pointer (some ⟨g, 0, none⟩)) "Type").run Tryz.prog w = .ok (145, .agg #[x, y]) w := by
  obtain ⟨i, m, h1, h2, h3, h4⟩ := method_row iTyStr
  exact method_val h1 h2 h3 h4 Tryz.underlying56 (run_loadVar_row (P := Tryz.prog) w g 59 59 _ (0, 0) _ hW Tryz.underlying59 rfl zTyStr)
set_option maxRecDepth 100000 in
set_option maxHeartbeats 1000000 in
theorem tyStr (w : World) (x y : Value) : Calls Tryz.prog 145 #[.agg #[x, y]] w fun e w' => TyRes w ⟨#[83, 116, 114, 105, 110, 103]⟩ e w' := by
  have K0 := (Keeps.refl (fun _ => False) w).alloc (.cells #[x, y] 59)
  go_enter Tryz.func145, Tryz.ntmps145
  go_wp2_with fail
  go_ret
  exact ⟨rfl, K0⟩
theorem hasStr {w : World} {g : Nat} {x y : Value} (hW : Whole w g 59 #[x, y]) : HasTy w (.iface 56 (.pointer (some ⟨g, 0, none⟩))) ⟨#[83, 116, 114, 105, 110, 103]⟩ :=
  ⟨_, _, _, _, rfl, fTyStr, fun w2 K => ⟨mTyStr (hW.keeps K (fun h => h)), tyStr w2 x y⟩⟩
theorem iTyU32 : (Tryz.prog.info? 67).map (fun i => (i.methods.find? (·.name == "Type")).map (fun m => (m.path.toList.length, m.func))) = some (some (0, some (185, false))) := by kernel_rfl
theorem fTyU32 (args : Array Value) (w : World) : (callFunc 185 args).run Tryz.prog w = .ok (.enter 185 args) w := by kernel_rfl
theorem mTyU32 {w : World} {g : Nat} {x : Value} (hW : Whole w g 68 #[x]) (fuel : Nat) : (method (fuel + 1) 67 (.pointer (some ⟨g, 0, none⟩)) "Type").run Tryz.prog w = .ok (185, x) w := by
  obtain ⟨i, m, h1, h2, h3, h4⟩ := method_row iTyU32
  exact method_val h1 h2 h3 h4 Tryz.underlying67 (by have h0 : w.cell? ⟨g, 0, none⟩ = some x := hW.cell 0; go_simp)
set_option maxRecDepth 100000 in
set_option maxHeartbeats 1000000 in
theorem tyU32 (w : World) (x : Value) : Calls Tryz.prog 185 #[x] w fun e w' => TyRes w ⟨#[85, 73, 110, 116, 51, 50]⟩ e w' := by
  go_enter Tryz.func185, Tryz.ntmps185
  go_wp2_with fail
  go_ret
  exact ⟨rfl, Keeps.refl _ _⟩
theorem hasU32 {w : World} {g : Nat} {x : Value} (hW : Whole w g 68 #[x]) : HasTy w (.iface 67 (.pointer (some ⟨g, 0, none⟩))) ⟨#[85, 73, 110, 116, 51, 50]⟩ :=
  ⟨_, _, _, _, rfl, fTyU32, fun w2 K => ⟨mTyU32 (hW.keeps K (fun h => h)), tyU32 w2 x⟩⟩
theorem subOne (w : World) (t s : ByteArray) (ht : t.size ≤ 100000) (hs : s.size ≤ 100000) :
    Calls Tryz.prog 114 #[.string t, .slice (some ⟨w.heap.size, 0, none⟩) 1 1] (w.alloc (.cells #[.string s] 50)) fun e w' => TyRes (w.alloc (.cells #[.string s] 50)) (ctS t [s]) e w' :=
  ctSubM _ t w.heap.size 1 1 [s] rfl (SRow.whole (Whole.new w 50 #[.string s]) (fun j x h => by rcases j with _ | j; (· simpa using h); (· simp at h))) (by omega) (by omega) ht (fun x hx => by rw [List.mem_singleton.1 hx]; exact hs)
theorem iTyArr : (Tryz.prog.info? 51).map (fun i => (i.methods.find? (·.name == "Type")).map (fun m => (m.path.toList.length, m.func))) = some (some (0, some (110, false))) := by kernel_rfl
theorem fTyArr (args : Array Value) (w : World) : (callFunc 110 args).run Tryz.prog w = .ok (.enter 110 args) w := by kernel_rfl
theorem zTyArr : (Tryz.prog.info? 126).map (·.size) = some 2 := by kernel_rfl
theorem mTyArr {w : World} {g : Nat} {x V : Value} (hW : Whole w g 126 #[x, V]) (fuel : Nat) : (method (fuel + 1) 51 (.pointer (some ⟨g, 0, none⟩)) "Type").run Tryz.prog w = .ok (110, .agg #[x, V]) w := by
  obtain ⟨i, m, h1, h2, h3, h4⟩ := method_row iTyArr
  exact method_val h1 h2 h3 h4 Tryz.underlying51 (run_loadVar_row (P := Tryz.prog) w g 126 126 _ (0, 0) _ hW Tryz.underlying126 rfl zTyArr)
set_option maxRecDepth 100000 in
set_option maxHeartbeats 1000000 in
theorem tyArr (w0 w : World) (V : Value) (s : ByteArray) (x : Value) (hs : s.size ≤ 100000) (hT : HasTy w0 V s) (K : Keeps (fun _ => False) w0 w) : Calls Tryz.prog 110 #[.agg #[x, V]] w fun e w' => TyRes w (ctS ⟨#[65, 114, 114, 97, 121]⟩ [s]) e w' := by
  obtain ⟨T, p, f, recv, rfl, hf, hT⟩ := hT
  have K0 := (Keeps.refl (fun _ => False) w).alloc (.cells #[x, .iface T p] 126)
  obtain ⟨hme, hCa⟩ := hT _ (K.trans K0 (fun _ _ h => h))
  have HCa := Lib.hid hCa
  have HK0 := Lib.hid K0
  have hmM : (method 469 T p "Type").run Tryz.prog _ = .ok (f, recv) _ := hme _
  have HSub := Lib.hid (fun w => subOne w ⟨#[65, 114, 114, 97, 121]⟩ s (by decide) hs)
  clear hT hCa hme K K0
  go_enter Tryz.func110, Tryz.ntmps110
  go_wp2_with fail
  refine HCa.out.mono ?_
  rintro e w2 ⟨rfl, K2⟩
  have K3 := Lib.hid ((HK0.out.trans K2 (fun _ _ h => h)).alloc (.cells #[.string s] 50))
  clear K2
  go_wp2_with fail
  refine (HSub.out w2).mono ?_
  rintro e w4 ⟨rfl, K4⟩
  go_wp2_with fail
  go_ret
  exact ⟨rfl, K3.out.trans K4 (fun _ _ h => h)⟩
theorem hasArr {w : World} {g : Nat} {V x : Value} {s : ByteArray} (hs : s.size ≤ 100000) (hW : Whole w g 126 #[x, V]) (hT : HasTy w V s) : HasTy w (.iface 51 (.pointer (some ⟨g, 0, none⟩))) (ctS ⟨#[65, 114, 114, 97, 121]⟩ [s]) :=
  ⟨_, _, _, _, rfl, fTyArr, fun w2 K => ⟨mTyArr (hW.keeps K (fun h => h)), tyArr w w2 V s x hs hT K⟩⟩
theorem iTyArr2 : (Tryz.prog.info? 53).map (fun i => (i.methods.find? (·.name == "Type")).map (fun m => (m.path.toList.length, m.func))) = some (some (0, some (131, false))) := by kernel_rfl
theorem fTyArr2 (args : Array Value) (w : World) : (callFunc 131 args).run Tryz.prog w = .ok (.enter 131 args) w := by kernel_rfl
theorem zTyArr2 : (Tryz.prog.info? 228).map (·.size) = some 2 := by kernel_rfl
theorem mTyArr2 {w : World} {g : Nat} {x V : Value} (hW : Whole w g 228 #[x, V]) (fuel : Nat) : (method (fuel + 1) 53 (.pointer (some ⟨g, 0, none⟩)) "Type").run Tryz.prog w = .ok (131, .agg #[x, V]) w := by
  obtain ⟨i, m, h1, h2, h3, h4⟩ := method_row iTyArr2
  exact method_val h1 h2 h3 h4 Tryz.underlying53 (run_loadVar_row (P := Tryz.prog) w g 228 228 _ (0, 0) _ hW Tryz.underlying228 rfl zTyArr2)
set_option maxRecDepth 100000 in
set_option maxHeartbeats 1000000 in
theorem tyArr2 (w0 w : World) (V : Value) (s : ByteArray) (x : Value) (hs : s.size ≤ 100000) (hT : HasTy w0 V s) (K : Keeps (fun _ => False) w0 w) : Calls Tryz.prog 131 #[.agg #[x, V]] w fun e w' => TyRes w (ctS ⟨#[65, 114, 114, 97, 121]⟩ [s]) e w' := by
  obtain ⟨T, p, f, recv, rfl, hf, hT⟩ := hT
  have K0 := (Keeps.refl (fun _ => False) w).alloc (.cells #[x, .iface T p] 228)
  obtain ⟨hme, hCa⟩ := hT _ (K.trans K0 (fun _ _ h => h))
  have HCa := Lib.hid hCa
  have HK0 := Lib.hid K0
  have hmM : (method 469 T p "Type").run Tryz.prog _ = .ok (f, recv) _ := hme _
  have HSub := Lib.hid (fun w => subOne w ⟨#[65, 114, 114, 97, 121]⟩ s (by decide) hs)
  clear hT hCa hme K K0
  go_enter Tryz.func131, Tryz.ntmps131
  go_wp2_with fail
  refine HCa.out.mono ?_
  rintro e w2 ⟨rfl, K2⟩
  have K3 := Lib.hid ((HK0.out.trans K2 (fun _ _ h => h)).alloc (.cells #[.string s] 50))
  clear K2
  go_wp2_with fail
  refine (HSub.out w2).mono ?_
  rintro e w4 ⟨rfl, K4⟩
  go_wp2_with fail
  go_ret
  exact ⟨rfl, K3.out.trans K4 (fun _ _ h => h)⟩
theorem hasArr2 {w : World} {g : Nat} {V x : Value} {s : ByteArray} (hs : s.size ≤ 100000) (hW : Whole w g 228 #[x, V]) (hT : HasTy w V s) : HasTy w (.iface 53 (.pointer (some ⟨g, 0, none⟩))) (ctS ⟨#[65, 114, 114, 97, 121]⟩ [s]) :=
  ⟨_, _, _, _, rfl, fTyArr2, fun w2 K => ⟨mTyArr2 (hW.keeps K (fun h => h)), tyArr2 w w2 V s x hs hT K⟩⟩
theorem iTyArrN : (Tryz.prog.info? 61).map (fun i => (i.methods.find? (·.name == "Type")).map (fun m => (m.path.toList.length, m.func))) = some (some (0, some (154, false))) := by kernel_rfl
theorem fTyArrN (args : Array Value) (w : World) : (callFunc 154 args).run Tryz.prog w = .ok (.enter 154 args) w := by kernel_rfl
theorem zTyArrN : (Tryz.prog.info? 232).map (·.size) = some 2 := by kernel_rfl
theorem mTyArrN {w : World} {g : Nat} {x V : Value} (hW : Whole w g 232 #[x, V]) (fuel : Nat) : (method (fuel + 1) 61 (.pointer (some ⟨g, 0, none⟩)) "Type").run Tryz.prog w = .ok (154, .agg #[x, V]) w := by
  obtain ⟨i, m, h1, h2, h3, h4⟩ := method_row iTyArrN
  exact method_val h1 h2 h3 h4 Tryz.underlying61 (run_loadVar_row (P := Tryz.prog) w g 232 232 _ (0, 0) _ hW Tryz.underlying232 rfl zTyArrN)
set_option maxRecDepth 100000 in
set_option maxHeartbeats 1000000 in
theorem tyArrN (w0 w : World) (V : Value) (s : ByteArray) (x : Value) (hs : s.size ≤ 100000) (hT : HasTy w0 V s) (K : Keeps (fun _ => False) w0 w) : Calls Tryz.prog 154 #[.agg #[x, V]] w fun e w' => TyRes w (ctS ⟨#[65, 114, 114, 97, 121]⟩ [s]) e w' := by
  obtain ⟨T, p, f, recv, rfl, hf, hT⟩ := hT
  have K0 := (Keeps.refl (fun _ => False) w).alloc (.cells #[x, .iface T p] 232)
  obtain ⟨hme, hCa⟩ := hT _ (K.trans K0 (fun _ _ h => h))
  have HCa := Lib.hid hCa
  have HK0 := Lib.hid K0
  have hmM : (method 469 T p "Type").run Tryz.prog _ = .ok (f, recv) _ := hme _
  have HSub := Lib.hid (fun w => subOne w ⟨#[65, 114, 114, 97, 121]⟩ s (by decide) hs)
  clear hT hCa hme K K0
  go_enter Tryz.func154, Tryz.ntmps154
  go_wp2_with fail
  refine HCa.out.mono ?_
  rintro e w2 ⟨rfl, K2⟩
  have K3 := Lib.hid ((HK0.out.trans K2 (fun _ _ h => h)).alloc (.cells #[.string s] 50))
  clear K2
  go_wp2_with fail
  refine (HSub.out w2).mono ?_
  rintro e w4 ⟨rfl, K4⟩
  go_wp2_with fail
  go_ret
  exact ⟨rfl, K3.out.trans K4 (fun _ _ h => h)⟩
theorem hasArrN {w : World} {g : Nat} {V x : Value} {s : ByteArray} (hs : s.size ≤ 100000) (hW : Whole w g 232 #[x, V]) (hT : HasTy w V s) : HasTy w (.iface 61 (.pointer (some ⟨g, 0, none⟩))) (ctS ⟨#[65, 114, 114, 97, 121]⟩ [s]) :=
  ⟨_, _, _, _, rfl, fTyArrN, fun w2 K => ⟨mTyArrN (hW.keeps K (fun h => h)), tyArrN w w2 V s x hs hT K⟩⟩
theorem iTyNul : (Tryz.prog.info? 55).map (fun i => (i.methods.find? (·.name == "Type")).map (fun m => (m.path.toList.length, m.func))) = some (some (0, some (138, false))) := by kernel_rfl
theorem fTyNul (args : Array Value) (w : World) : (callFunc 138 args).run Tryz.prog w = .ok (.enter 138 args) w := by kernel_rfl
theorem zTyNul : (Tryz.prog.info? 103).map (·.size) = some 2 := by kernel_rfl
theorem mTyNul {w : World} {g : Nat} {x V : Value} (hW : Whole w g 103 #[x, V]) (fuel : Nat) : (method (fuel + 1) 55 (.pointer (some ⟨g, 0, none⟩)) "Type").run Tryz.prog w = .ok (138, .agg #[x, V]) w := by
  obtain ⟨i, m, h1, h2, h3, h4⟩ := method_row iTyNul
  exact method_val h1 h2 h3 h4 Tryz.underlying55 (run_loadVar_row (P := Tryz.prog) w g 103 103 _ (0, 0) _ hW Tryz.underlying103 rfl zTyNul)
set_option maxRecDepth 100000 in
set_option maxHeartbeats 1000000 in
theorem tyNul (w0 w : World) (V : Value) (s : ByteArray) (x : Value) (hs : s.size ≤ 100000) (hT : HasTy w0 V s) (K : Keeps (fun _ => False) w0 w) : Calls Tryz.prog 138 #[.agg #[x, V]] w fun e w' => TyRes w (ctS ⟨#[78, 117, 108, 108, 97, 98, 108, 101]⟩ [s]) e w' := by
  obtain ⟨T, p, f, recv, rfl, hf, hT⟩ := hT
  have K0 := (Keeps.refl (fun _ => False) w).alloc (.cells #[x, .iface T p] 103)
  obtain ⟨hme, hCa⟩ := hT _ (K.trans K0 (fun _ _ h => h))
  have HCa := Lib.hid hCa
  have HK0 := Lib.hid K0
  have hmM : (method 469 T p "Type").run Tryz.prog _ = .ok (f, recv) _ := hme _
  have HSub := Lib.hid (fun w => subOne w ⟨#[78, 117, 108, 108, 97, 98, 108, 101]⟩ s (by decide) hs)
  clear hT hCa hme K K0
  go_enter Tryz.func138, Tryz.ntmps138
  go_wp2_with fail
  refine HCa.out.mono ?_
  rintro e w2 ⟨rfl, K2⟩
  have K3 := Lib.hid ((HK0.out.trans K2 (fun _ _ h => h)).alloc (.cells #[.string s] 50))
  clear K2
  go_wp2_with fail
  refine (HSub.out w2).mono ?_
  rintro e w4 ⟨rfl, K4⟩
  go_wp2_with fail
  go_ret
  exact ⟨rfl, K3.out.trans K4 (fun _ _ h => h)⟩
theorem hasNul {w : World} {g : Nat} {V x : Value} {s : ByteArray} (hs : s.size ≤ 100000) (hW : Whole w g 103 #[x, V]) (hT : HasTy w V s) : HasTy w (.iface 55 (.pointer (some ⟨g, 0, none⟩))) (ctS ⟨#[78, 117, 108, 108, 97, 98, 108, 101]⟩ [s]) :=
  ⟨_, _, _, _, rfl, fTyNul, fun w2 K => ⟨mTyNul (hW.keeps K (fun h => h)), tyNul w w2 V s x hs hT K⟩⟩
theorem iTyLc : (Tryz.prog.info? 63).map (fun i => (i.methods.find? (·.name == "Type")).map (fun m => (m.path.toList.length, m.func))) = some (some (0, some (161, false))) := by kernel_rfl
theorem fTyLc (args : Array Value) (w : World) : (callFunc 161 args).run Tryz.prog w = .ok (.enter 161 args) w := by kernel_rfl
theorem zTyLc : (Tryz.prog.info? 112).map (·.size) = some 9 := by kernel_rfl
theorem mTyLc {w : World} {g : Nat} {x V y2 y3 y4 y5 y6 y7 y8 : Value} (hW : Whole w g 112 #[x, V, y2, y3, y4, y5, y6, y7, y8]) (fuel : Nat) : (method (fuel + 1) 63 (.pointer (some ⟨g, 0, none⟩)) "Type").run Tryz.prog w = .ok (161, .agg #[x, V, y2, y3, y4, y5, y6, y7, y8]) w := by
  obtain ⟨i, m, h1, h2, h3, h4⟩ := method_row iTyLc
  exact method_val h1 h2 h3 h4 Tryz.underlying63 (run_loadVar_row (P := Tryz.prog) w g 112 112 _ (0, 0) _ hW Tryz.underlying112 rfl zTyLc)
set_option maxRecDepth 100000 in
set_option maxHeartbeats 1000000 in
theorem tyLc (w0 w : World) (V : Value) (s : ByteArray) (x y2 y3 y4 y5 y6 y7 y8 : Value) (hs : s.size ≤ 100000) (hT : HasTy w0 V s) (K : Keeps (fun _ => False) w0 w) : Calls Tryz.prog 161 #[.agg #[x, V, y2, y3, y4, y5, y6, y7, y8]] w fun e w' => TyRes w (ctS ⟨#[76, 111, 119, 67, 97, 114, 100, 105, 110, 97, 108, 105, 116, 121]⟩ [s]) e w' := by
  obtain ⟨T, p, f, recv, rfl, hf, hT⟩ := hT
  have K0 := (Keeps.refl (fun _ => False) w).alloc (.cells #[x, .iface T p, y2, y3, y4, y5, y6, y7, y8] 112)
  obtain ⟨hme, hCa⟩ := hT _ (K.trans K0 (fun _ _ h => h))
  have HCa := Lib.hid hCa
  have HK0 := Lib.hid K0
  have hmM : (method 469 T p "Type").run Tryz.prog _ = .ok (f, recv) _ := hme _
  have HSub := Lib.hid (fun w => subOne w ⟨#[76, 111, 119, 67, 97, 114, 100, 105, 110, 97, 108, 105, 116, 121]⟩ s (by decide) hs)
  clear hT hCa hme K K0
  go_enter Tryz.func161, Tryz.ntmps161
  go_wp2_with fail
  refine HCa.out.mono ?_
  rintro e w2 ⟨rfl, K2⟩
  have K3 := Lib.hid ((HK0.out.trans K2 (fun _ _ h => h)).alloc (.cells #[.string s] 50))
  clear K2
  go_wp2_with fail
  refine (HSub.out w2).mono ?_
  rintro e w4 ⟨rfl, K4⟩
  go_wp2_with fail
  go_ret
  exact ⟨rfl, K3.out.trans K4 (fun _ _ h => h)⟩
theorem hasLc {w : World} {g : Nat} {V x y2 y3 y4 y5 y6 y7 y8 : Value} {s : ByteArray} (hs : s.size ≤ 100000) (hW : Whole w g 112 #[x, V, y2, y3, y4, y5, y6, y7, y8]) (hT : HasTy w V s) : HasTy w (.iface 63 (.pointer (some ⟨g, 0, none⟩))) (ctS ⟨#[76, 111, 119, 67, 97, 114, 100, 105, 110, 97, 108, 105, 116, 121]⟩ [s]) :=
  ⟨_, _, _, _, rfl, fTyLc, fun w2 K => ⟨mTyLc (hW.keeps K (fun h => h)), tyLc w w2 V s x y2 y3 y4 y5 y6 y7 y8 hs hT K⟩⟩
end Go.Proofs.YtpbnhhfpbadhjaaGreat
