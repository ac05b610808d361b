/- The types of columns of more parts: a map, a tuple, a part with a name. Conditions: the parts' own answers in the world in which they lie. -/
import Derived.Test.YtpbnhhfpbadhjaaGreatTyB
import Derived.Deep.RegionHeld3
namespace Go.Proofs.YtpbnhhfpbadhjaaGreat
open Go.RowKit Go.Lib
set_option linter.unusedVariables false
theorem iTyMap : (Tryz.prog.info? 65).map (fun i => (i.methods.find? (·.name == "Type")).map (fun m => (m.path.toList.length, m.func))) = some (some (0, some (180, false))) := by kernel_rfl
theorem fTyMap (args : Array Value) (w : World) : (callFunc 180 args).run Tryz.prog w = .ok (.enter 180 args) w := by kernel_rfl
theorem zTyMap : (Tryz.prog.info? 234).map (·.size) = some 3 := by kernel_rfl
theorem mTyMap {w : World} {g : Nat} {x y z : Value} (hW : Whole w g 234 #[x, y, z]) (fuel : Nat) : (method (fuel + 1) 65 (.pointer (some ⟨g, 0, none⟩)) "Type").run Tryz.prog w = .ok (180, .agg #[x, y, z]) w := by
  obtain ⟨i, m, h1, h2, h3, h4⟩ := method_row iTyMap
  exact method_val h1 h2 h3 h4 Tryz.underlying65 (run_loadVar_row (P := Tryz.prog) w g 234 234 _ (0, 0) _ hW Tryz.underlying234 rfl zTyMap)
abbrev MapS (n gk gv : Nat) (a b c d : Value) (w : World) : Prop := w.cell? ⟨n, 1, none⟩ = some (.iface 56 (.pointer (some ⟨gk, 0, none⟩))) ∧ w.cell? ⟨n, 2, none⟩ = some (.iface 56 (.pointer (some ⟨gv, 0, none⟩))) ∧ (method 469 56 (.pointer (some ⟨gk, 0, none⟩)) "Type").run Tryz.prog w = .ok (145, .agg #[a, b]) w ∧ (method 469 56 (.pointer (some ⟨gv, 0, none⟩)) "Type").run Tryz.prog w = .ok (145, .agg #[c, d]) w
theorem mapS {w w' : World} {gk gv : Nat} {x a b c d : Value} (hk : Whole w gk 59 #[a, b]) (hv : Whole w gv 59 #[c, d]) (kk : Keeps (fun _ => False) (w.alloc (.cells #[x, (.iface 56 (.pointer (some ⟨gk, 0, none⟩))), (.iface 56 (.pointer (some ⟨gv, 0, none⟩)))] 234)) w') : MapS w.heap.size gk gv a b c d w' := by
  have hW := (Whole.new w 234 #[x, (.iface 56 (.pointer (some ⟨gk, 0, none⟩))), (.iface 56 (.pointer (some ⟨gv, 0, none⟩)))]).keeps kk (fun h => h)
  exact ⟨hW.cell 1, hW.cell 2, mTyStr ((hk.alloc _).keeps kk (fun h => h)) _, mTyStr ((hv.alloc _).keeps kk (fun h => h)) _⟩
theorem subTwo (w : World) (t s r : ByteArray) (ht : t.size ≤ 100000) (hs : s.size ≤ 100000) (hr : r.size ≤ 100000) :
    Calls Tryz.prog 114 #[.string t, .slice (some ⟨w.heap.size, 0, none⟩) 2 2] (w.alloc (.cells #[.string s, .string r] 50)) fun e w' => TyRes (w.alloc (.cells #[.string s, .string r] 50)) (ctS t [s, r]) e w' :=
  ctSubM _ t w.heap.size 2 2 [s, r] rfl (SRow.whole (Whole.new w 50 #[.string s, .string r]) (fun j x h => by
    rcases j with _ | _ | j
    · simpa using h
    · simpa using h
    · simp at h)) (by omega) (by omega) ht (fun x hx => by
    rcases List.mem_cons.1 hx with rfl | hx
    · exact hs
    · rw [List.mem_singleton.1 hx]; exact hr)
set_option maxRecDepth 100000 in
set_option maxHeartbeats 1000000 in
theorem tyMap (w : World) (gk gv : Nat) (x a b c d : Value) (hk : Whole w gk 59 #[a, b]) (hv : Whole w gv 59 #[c, d]) : Calls Tryz.prog 180 #[.agg #[x, (.iface 56 (.pointer (some ⟨gk, 0, none⟩))), (.iface 56 (.pointer (some ⟨gv, 0, none⟩)))]] w fun e w' => TyRes w (ctS ⟨#[77, 97, 112]⟩ [⟨#[83, 116, 114, 105, 110, 103]⟩, ⟨#[83, 116, 114, 105, 110, 103]⟩]) e w' := by
  have K0 := Lib.hid ((Keeps.refl (fun _ => False) w).alloc (.cells #[x, (.iface 56 (.pointer (some ⟨gk, 0, none⟩))), (.iface 56 (.pointer (some ⟨gv, 0, none⟩)))] 234))
  have HSub := Lib.hid (fun w => subTwo w ⟨#[77, 97, 112]⟩ ⟨#[83, 116, 114, 105, 110, 103]⟩ ⟨#[83, 116, 114, 105, 110, 103]⟩ (by decide) (by decide) (by decide))
  have HM := Lib.hid (fun w' kk => mapS (w' := w') (x := x) hk hv kk)
  have hLK := hk.lt
  have hLV := hv.lt
  clear hk hv
  go_enter Tryz.func180, Tryz.ntmps180
  go_wp2_with fail
  have kk := ((Keeps.refl (fun _ => False) (w.alloc (.cells #[x, (.iface 56 (.pointer (some ⟨gk, 0, none⟩))), (.iface 56 (.pointer (some ⟨gv, 0, none⟩)))] 234))).drew)
  go_region_held3 (fun w' => MapS w.heap.size gk gv a b c d w') (first | exact HM.out _ kk | exact HM.out _ (kk.alloc _)) (first
    | (go_at_call 145; refine (tyStr _ _ _).mono ?_; rintro e w3 ⟨rfl, K3⟩; have kk := kk.trans K3 (fun _ _ h => h))
    | (go_at_call 114; refine (HSub.out _).mono ?_; rintro e w4 ⟨rfl, K4⟩; have kk := (kk.alloc _).trans K4 (fun _ _ h => h)))
  all_goals
    go_wp2_with fail
    go_ret
    exact ⟨rfl, K0.out.trans kk (fun _ _ h => h)⟩
theorem hasMap {w : World} {g gk gv : Nat} {x a b c d : Value} (hW : Whole w g 234 #[x, (.iface 56 (.pointer (some ⟨gk, 0, none⟩))), (.iface 56 (.pointer (some ⟨gv, 0, none⟩)))]) (hk : Whole w gk 59 #[a, b]) (hv : Whole w gv 59 #[c, d]) : HasTy w (.iface 65 (.pointer (some ⟨g, 0, none⟩))) (ctS ⟨#[77, 97, 112]⟩ [⟨#[83, 116, 114, 105, 110, 103]⟩, ⟨#[83, 116, 114, 105, 110, 103]⟩]) :=
  ⟨_, _, _, _, rfl, fTyMap, fun w2 K => ⟨mTyMap (hW.keeps K (fun h => h)), tyMap w2 gk gv x a b c d (hk.keeps K (fun h => h)) (hv.keeps K (fun h => h))⟩⟩
theorem iTyNmS : (Tryz.prog.info? 71).map (fun i => (i.methods.find? (·.name == "Type")).map (fun m => (m.path.toList.length, m.func))) = some (some (0, some (193, false))) := by kernel_rfl
theorem fTyNmS (args : Array Value) (w : World) : (callFunc 193 args).run Tryz.prog w = .ok (.enter 193 args) w := by kernel_rfl
theorem zTyNmS : (Tryz.prog.info? 115).map (·.size) = some 2 := by kernel_rfl
theorem mTyNmS {w : World} {g : Nat} {x y : Value} (hW : Whole w g 115 #[x, y]) (fuel : Nat) : (method (fuel + 1) 71 (.pointer (some ⟨g, 0, none⟩)) "Type").run Tryz.prog w = .ok (193, .agg #[x, y]) w := by
  obtain ⟨i, m, h1, h2, h3, h4⟩ := method_row iTyNmS
  exact method_val h1 h2 h3 h4 Tryz.underlying71 (run_loadVar_row (P := Tryz.prog) w g 115 115 _ (0, 0) _ hW Tryz.underlying115 rfl zTyNmS)
theorem sNmS {w w' : World} {gk : Nat} {p q : Value} (hk : Whole w gk 59 #[p, q]) (kk : Keeps (fun _ => False) (w.alloc (.cells #[(.iface 56 (.pointer (some ⟨gk, 0, none⟩))), .string ⟨#[97]⟩] 115)) w') : w'.cell? ⟨w.heap.size, 0, none⟩ = some (.iface 56 (.pointer (some ⟨gk, 0, none⟩))) ∧ w'.cell? ⟨w.heap.size, 1, none⟩ = some (.string ⟨#[97]⟩) ∧ (method 469 56 (.pointer (some ⟨gk, 0, none⟩)) "Type").run Tryz.prog w' = .ok (145, .agg #[p, q]) w' := by
  have hW := (Whole.new w 115 #[(.iface 56 (.pointer (some ⟨gk, 0, none⟩))), .string ⟨#[97]⟩]).keeps kk (fun h => h)
  exact ⟨hW.cell 0, hW.cell 1, mTyStr ((hk.alloc _).keeps kk (fun h => h)) _⟩
set_option maxRecDepth 100000 in
set_option maxHeartbeats 1000000 in
theorem tyNmS (w : World) (gk : Nat) (p q : Value) (hk : Whole w gk 59 #[p, q]) : Calls Tryz.prog 193 #[.agg #[(.iface 56 (.pointer (some ⟨gk, 0, none⟩))), .string ⟨#[97]⟩]] w fun e w' => TyRes w ⟨#[97, 32, 83, 116, 114, 105, 110, 103]⟩ e w' := by
  have K0 := Lib.hid ((Keeps.refl (fun _ => False) w).alloc (.cells #[(.iface 56 (.pointer (some ⟨gk, 0, none⟩))), .string ⟨#[97]⟩] 115))
  have HM := Lib.hid (fun w' kk => sNmS (w' := w') hk kk)
  have hLK := hk.lt
  clear hk
  go_enter Tryz.func193, Tryz.ntmps193
  go_wp2_with fail
  have kk := ((Keeps.refl (fun _ => False) (w.alloc (.cells #[(.iface 56 (.pointer (some ⟨gk, 0, none⟩))), .string ⟨#[97]⟩] 115))).drew)
  go_region_held3 (fun w' => w'.cell? ⟨w.heap.size, 0, none⟩ = some (.iface 56 (.pointer (some ⟨gk, 0, none⟩))) ∧ w'.cell? ⟨w.heap.size, 1, none⟩ = some (.string ⟨#[97]⟩) ∧ (method 469 56 (.pointer (some ⟨gk, 0, none⟩)) "Type").run Tryz.prog w' = .ok (145, .agg #[p, q]) w') (exact HM.out _ kk) (first
    | (go_at_call 145; refine (tyStr _ _ _).mono ?_; rintro e w3 ⟨rfl, K3⟩; have kk := kk.trans K3 (fun _ _ h => h))
    | (go_at_call 104; go_in))
  all_goals
    go_wp2_with fail
    go_ret
    exact ⟨rfl, K0.out.trans kk (fun _ _ h => h)⟩
theorem hasNmS {w : World} {g gk : Nat} {p q : Value} (hW : Whole w g 115 #[(.iface 56 (.pointer (some ⟨gk, 0, none⟩))), .string ⟨#[97]⟩]) (hk : Whole w gk 59 #[p, q]) : HasTy w (.iface 71 (.pointer (some ⟨g, 0, none⟩))) ⟨#[97, 32, 83, 116, 114, 105, 110, 103]⟩ :=
  ⟨_, _, _, _, rfl, fTyNmS, fun w2 K => ⟨mTyNmS (hW.keeps K (fun h => h)), tyNmS w2 gk p q (hk.keeps K (fun h => h))⟩⟩
theorem iTyNmU : (Tryz.prog.info? 73).map (fun i => (i.methods.find? (·.name == "Type")).map (fun m => (m.path.toList.length, m.func))) = some (some (0, some (195, false))) := by kernel_rfl
theorem fTyNmU (args : Array Value) (w : World) : (callFunc 195 args).run Tryz.prog w = .ok (.enter 195 args) w := by kernel_rfl
theorem zTyNmU : (Tryz.prog.info? 119).map (·.size) = some 2 := by kernel_rfl
theorem mTyNmU {w : World} {g : Nat} {x y : Value} (hW : Whole w g 119 #[x, y]) (fuel : Nat) : (method (fuel + 1) 73 (.pointer (some ⟨g, 0, none⟩)) "Type").run Tryz.prog w = .ok (195, .agg #[x, y]) w := by
  obtain ⟨i, m, h1, h2, h3, h4⟩ := method_row iTyNmU
  exact method_val h1 h2 h3 h4 Tryz.underlying73 (run_loadVar_row (P := Tryz.prog) w g 119 119 _ (0, 0) _ hW Tryz.underlying119 rfl zTyNmU)
theorem sNmU {w w' : World} {gk : Nat} {p : Value} (hk : Whole w gk 68 #[p]) (kk : Keeps (fun _ => False) (w.alloc (.cells #[(.iface 67 (.pointer (some ⟨gk, 0, none⟩))), .string ⟨#[98]⟩] 119)) w') : w'.cell? ⟨w.heap.size, 0, none⟩ = some (.iface 67 (.pointer (some ⟨gk, 0, none⟩))) ∧ w'.cell? ⟨w.heap.size, 1, none⟩ = some (.string ⟨#[98]⟩) ∧ (method 469 67 (.pointer (some ⟨gk, 0, none⟩)) "Type").run Tryz.prog w' = .ok (185, p) w' := by
  have hW := (Whole.new w 119 #[(.iface 67 (.pointer (some ⟨gk, 0, none⟩))), .string ⟨#[98]⟩]).keeps kk (fun h => h)
  exact ⟨hW.cell 0, hW.cell 1, mTyU32 ((hk.alloc _).keeps kk (fun h => h)) _⟩
set_option maxRecDepth 100000 in
set_option maxHeartbeats 1000000 in
theorem tyNmU (w : World) (gk : Nat) (p : Value) (hk : Whole w gk 68 #[p]) : Calls Tryz.prog 195 #[.agg #[(.iface 67 (.pointer (some ⟨gk, 0, none⟩))), .string ⟨#[98]⟩]] w fun e w' => TyRes w ⟨#[98, 32, 85, 73, 110, 116, 51, 50]⟩ e w' := by
  have K0 := Lib.hid ((Keeps.refl (fun _ => False) w).alloc (.cells #[(.iface 67 (.pointer (some ⟨gk, 0, none⟩))), .string ⟨#[98]⟩] 119))
  have HM := Lib.hid (fun w' kk => sNmU (w' := w') hk kk)
  have hLK := hk.lt
  clear hk
  go_enter Tryz.func195, Tryz.ntmps195
  go_wp2_with fail
  have kk := ((Keeps.refl (fun _ => False) (w.alloc (.cells #[(.iface 67 (.pointer (some ⟨gk, 0, none⟩))), .string ⟨#[98]⟩] 119))).drew)
  go_region_held3 (fun w' => w'.cell? ⟨w.heap.size, 0, none⟩ = some (.iface 67 (.pointer (some ⟨gk, 0, none⟩))) ∧ w'.cell? ⟨w.heap.size, 1, none⟩ = some (.string ⟨#[98]⟩) ∧ (method 469 67 (.pointer (some ⟨gk, 0, none⟩)) "Type").run Tryz.prog w' = .ok (185, p) w') (exact HM.out _ kk) (first
    | (go_at_call 185; refine (tyU32 _ _).mono ?_; rintro e w3 ⟨rfl, K3⟩; have kk := kk.trans K3 (fun _ _ h => h))
    | (go_at_call 104; go_in))
  all_goals
    go_wp2_with fail
    go_ret
    exact ⟨rfl, K0.out.trans kk (fun _ _ h => h)⟩
theorem hasNmU {w : World} {g gk : Nat} {p : Value} (hW : Whole w g 119 #[(.iface 67 (.pointer (some ⟨gk, 0, none⟩))), .string ⟨#[98]⟩]) (hk : Whole w gk 68 #[p]) : HasTy w (.iface 73 (.pointer (some ⟨g, 0, none⟩))) ⟨#[98, 32, 85, 73, 110, 116, 51, 50]⟩ :=
  ⟨_, _, _, _, rfl, fTyNmU, fun w2 K => ⟨mTyNmU (hW.keeps K (fun h => h)), tyNmU w2 gk p (hk.keeps K (fun h => h))⟩⟩
end Go.Proofs.YtpbnhhfpbadhjaaGreat
