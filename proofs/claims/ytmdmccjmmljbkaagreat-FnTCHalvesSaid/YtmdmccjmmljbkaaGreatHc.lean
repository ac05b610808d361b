/- A row appended to a column of wide numbers by its closure. Conditions: sizes far below the machine's; the closure's variables lie apart. -/
import Derived.Test.YtmdmccjmmljbkaaGreatHb
import Derived.Test.YtmdmccjmmljbkaaGreatMt
import Derived.Deep.RegionHeld3
namespace Go.Proofs.YtmdmccjmmljbkaaGreat
open Go.RowKit Go.Lib
set_option linter.unusedVariables false
theorem ahead_ptr {P : Program} {fuel : Nat} {t : TypeId} {i : TypeInfo} {m : _} {name : String} {f : FuncId} {v : Value} {w : World} (hi : P.info? t = some i) (hm : i.methods.find? (·.name == name) = some m) (hp : m.path = #[]) (hf : m.func = some (f, true)) : (nilAhead (fuel + 1) t v name).run P w = .ok (some false) w := by
  unfold nilAhead
  simp only [Sem.run_bind, run_typeInfo w hi, Result.andThen_ok, hm, hp, hf, followBlind, Sem.run_pure, List.toList_toArray]
theorem iWApp10 : (Tryz.prog.info? 143).map (fun i => (i.methods.find? (·.name == "Append")).map (fun m => (m.path.toList.length, m.func))) = some (some (0, some (185, true))) := by kernel_rfl
theorem mWApp10 (w : World) (g : Nat) (fuel : Nat) : (method (fuel + 1) 143 (.pointer (some ⟨g, 0, none⟩)) "Append").run Tryz.prog w = .ok (185, .pointer (some ⟨g, 0, none⟩)) w := by
  obtain ⟨i, m, h1, h2, h3, h4⟩ := method_row iWApp10
  exact method_ptr h1 h2 h3 h4 Tryz.underlying143
theorem nWApp10 (w : World) (g : Nat) (fuel : Nat) : (nilAhead (fuel + 1) 143 (.pointer (some ⟨g, 0, none⟩)) "Append").run Tryz.prog w = .ok (some false) w := by
  obtain ⟨i, m, h1, h2, h3, h4⟩ := method_row iWApp10
  exact ahead_ptr h1 h2 h3 h4
set_option maxRecDepth 100000 in
set_option maxHeartbeats 2000000 in
theorem tAdd10 (w : World) (base g b : Nat) (A : Option Addr) (n c : Nat) (vs : List Value) (U : Option Addr) (m cm : Nat) (xs : List Nat) (hC : WAt 145 142 2 w base g A n c vs) (hn : n ≤ 1000000) (hb0 : w.cell? ⟨b, 0, none⟩ = some (.iface 143 (.pointer (some ⟨g, 0, none⟩)))) (hb1 : w.cell? ⟨b + 1, 0, none⟩ = some (.func (.func 56) #[] #[])) (n0 : ¬ (b = g ∨ ob A = some b)) (n1 : ¬ (b + 1 = g ∨ ob A = some (b + 1))) (hl : xs.length = m) (hU : Rd w 1 U m (qw xs)) :
    Calls Tryz.prog 75 #[.slice U m cm, .pointer (some ⟨b, 0, none⟩), .pointer (some ⟨b + 1, 0, none⟩)] w fun e w' => WRes 145 142 2 w base g A (n + 1) (vs ++ [.int .u64 ((xs.getD 0 0 : Nat) : Int), .int .u64 ((xs.getD 1 0 : Nat) : Int)]) e w' := by
  have l0 := World.block_lt_of_cell? w _ hb0
  have l1 := World.block_lt_of_cell? w _ hb1
  have HM := Lib.hid (fun w' (kk : Keeps (fun _ => False) w w') => show w'.cell? ⟨b, 0, none⟩ = some (.iface 143 (.pointer (some ⟨g, 0, none⟩))) ∧ w'.cell? ⟨b + 1, 0, none⟩ = some (.func (.func 56) #[] #[]) ∧ (method 347 143 (.pointer (some ⟨g, 0, none⟩)) "Append").run Tryz.prog w' = .ok (185, .pointer (some ⟨g, 0, none⟩)) w' ∧ (nilAhead 347 143 (.pointer (some ⟨g, 0, none⟩)) "Append").run Tryz.prog w' = .ok (some false) w' from ⟨(kk.cell l0 (fun h => h)).trans hb0, (kk.cell l1 (fun h => h)).trans hb1, mWApp10 _ _ _, nWApp10 _ _ _⟩)
  have HM4 := Lib.hid (fun w' (kk : Keeps (fun i => i = g ∨ ob A = some i) w w') => show w'.cell? ⟨b, 0, none⟩ = some (.iface 143 (.pointer (some ⟨g, 0, none⟩))) ∧ w'.cell? ⟨b + 1, 0, none⟩ = some (.func (.func 56) #[] #[]) ∧ (method 347 143 (.pointer (some ⟨g, 0, none⟩)) "Append").run Tryz.prog w' = .ok (185, .pointer (some ⟨g, 0, none⟩)) w' ∧ (nilAhead 347 143 (.pointer (some ⟨g, 0, none⟩)) "Append").run Tryz.prog w' = .ok (some false) w' from ⟨(kk.cell l0 n0).trans hb0, (kk.cell l1 n1).trans hb1, mWApp10 _ _ _, nWApp10 _ _ _⟩)
  have HI := Lib.hid (fun w' (kk : Keeps (fun _ => False) w w') => tIn10 w' U m cm xs hl (hU.keeps kk (fun _ _ h => h)))
  have HA := Lib.hid (fun w' (kk : Keeps (fun _ => False) w w') => wApp10 w' base g A n c vs (xs.getD 0 0) (xs.getD 1 0) (hC.new kk) hn)
  have kk := (Keeps.refl (fun _ => False) w).drew
  clear hC hb0 hb1 n0 n1 hU hl
  go_enter Tryz.func75, Tryz.ntmps75
  go_wp2_with fail
  go_region_held3 (fun w' => w'.cell? ⟨b, 0, none⟩ = some (.iface 143 (.pointer (some ⟨g, 0, none⟩))) ∧ w'.cell? ⟨b + 1, 0, none⟩ = some (.func (.func 56) #[] #[]) ∧ (method 347 143 (.pointer (some ⟨g, 0, none⟩)) "Append").run Tryz.prog w' = .ok (185, .pointer (some ⟨g, 0, none⟩)) w' ∧ (nilAhead 347 143 (.pointer (some ⟨g, 0, none⟩)) "Append").run Tryz.prog w' = .ok (some false) w') (first | exact HM.out _ kk | exact HM4.out _ k4) (first
    | (go_at_call 56; refine (HI.out _ kk).mono ?_; rintro e w3 ⟨rfl, K3⟩; have kk := kk.trans K3 (fun _ _ h => h))
    | (go_at_call 185; refine (HA.out _ kk).mono ?_; rintro e w4 ⟨A4, c4, rfl, hP4, K4, hat4⟩; have k4 := (kk.mono (S' := fun i => i = g ∨ ob A = some i) (fun _ _ h => h.elim)).trans K4 (fun _ _ h => h)))
  all_goals
    go_wp2_with fail
    go_end0
    refine ⟨A4, c4, rfl, hP4, k4, ?_⟩
    rcases hat4 with e | e
    · exact .inl e
    · exact .inr (fun i hi => Nat.le_trans kk.size (e i hi))
theorem iWApp11 : (Tryz.prog.info? 153).map (fun i => (i.methods.find? (·.name == "Append")).map (fun m => (m.path.toList.length, m.func))) = some (some (0, some (196, true))) := by kernel_rfl
theorem mWApp11 (w : World) (g : Nat) (fuel : Nat) : (method (fuel + 1) 153 (.pointer (some ⟨g, 0, none⟩)) "Append").run Tryz.prog w = .ok (196, .pointer (some ⟨g, 0, none⟩)) w := by
  obtain ⟨i, m, h1, h2, h3, h4⟩ := method_row iWApp11
  exact method_ptr h1 h2 h3 h4 Tryz.underlying153
theorem nWApp11 (w : World) (g : Nat) (fuel : Nat) : (nilAhead (fuel + 1) 153 (.pointer (some ⟨g, 0, none⟩)) "Append").run Tryz.prog w = .ok (some false) w := by
  obtain ⟨i, m, h1, h2, h3, h4⟩ := method_row iWApp11
  exact ahead_ptr h1 h2 h3 h4
set_option maxRecDepth 100000 in
set_option maxHeartbeats 2000000 in
theorem tAdd11 (w : World) (base g b : Nat) (A : Option Addr) (n c : Nat) (vs : List Value) (U : Option Addr) (m cm : Nat) (xs : List Nat) (hC : WAt 155 152 4 w base g A n c vs) (hn : n ≤ 1000000) (hb0 : w.cell? ⟨b, 0, none⟩ = some (.iface 153 (.pointer (some ⟨g, 0, none⟩)))) (hb1 : w.cell? ⟨b + 1, 0, none⟩ = some (.func (.func 60) #[] #[])) (n0 : ¬ (b = g ∨ ob A = some b)) (n1 : ¬ (b + 1 = g ∨ ob A = some (b + 1))) (hl : xs.length = m) (hU : Rd w 1 U m (qw xs)) :
    Calls Tryz.prog 78 #[.slice U m cm, .pointer (some ⟨b, 0, none⟩), .pointer (some ⟨b + 1, 0, none⟩)] w fun e w' => WRes 155 152 4 w base g A (n + 1) (vs ++ [.int .u64 ((xs.getD 0 0 : Nat) : Int), .int .u64 ((xs.getD 1 0 : Nat) : Int), .int .u64 ((xs.getD 2 0 : Nat) : Int), .int .u64 ((xs.getD 3 0 : Nat) : Int)]) e w' := by
  have l0 := World.block_lt_of_cell? w _ hb0
  have l1 := World.block_lt_of_cell? w _ hb1
  have HM := Lib.hid (fun w' (kk : Keeps (fun _ => False) w w') => show w'.cell? ⟨b, 0, none⟩ = some (.iface 153 (.pointer (some ⟨g, 0, none⟩))) ∧ w'.cell? ⟨b + 1, 0, none⟩ = some (.func (.func 60) #[] #[]) ∧ (method 347 153 (.pointer (some ⟨g, 0, none⟩)) "Append").run Tryz.prog w' = .ok (196, .pointer (some ⟨g, 0, none⟩)) w' ∧ (nilAhead 347 153 (.pointer (some ⟨g, 0, none⟩)) "Append").run Tryz.prog w' = .ok (some false) w' from ⟨(kk.cell l0 (fun h => h)).trans hb0, (kk.cell l1 (fun h => h)).trans hb1, mWApp11 _ _ _, nWApp11 _ _ _⟩)
  have HM4 := Lib.hid (fun w' (kk : Keeps (fun i => i = g ∨ ob A = some i) w w') => show w'.cell? ⟨b, 0, none⟩ = some (.iface 153 (.pointer (some ⟨g, 0, none⟩))) ∧ w'.cell? ⟨b + 1, 0, none⟩ = some (.func (.func 60) #[] #[]) ∧ (method 347 153 (.pointer (some ⟨g, 0, none⟩)) "Append").run Tryz.prog w' = .ok (196, .pointer (some ⟨g, 0, none⟩)) w' ∧ (nilAhead 347 153 (.pointer (some ⟨g, 0, none⟩)) "Append").run Tryz.prog w' = .ok (some false) w' from ⟨(kk.cell l0 n0).trans hb0, (kk.cell l1 n1).trans hb1, mWApp11 _ _ _, nWApp11 _ _ _⟩)
  have HI := Lib.hid (fun w' (kk : Keeps (fun _ => False) w w') => tIn11 w' U m cm xs hl (hU.keeps kk (fun _ _ h => h)))
  have HA := Lib.hid (fun w' (kk : Keeps (fun _ => False) w w') => wApp11 w' base g A n c vs (xs.getD 0 0) (xs.getD 1 0) (xs.getD 2 0) (xs.getD 3 0) (hC.new kk) hn)
  have kk := (Keeps.refl (fun _ => False) w).drew
  clear hC hb0 hb1 n0 n1 hU hl
  go_enter Tryz.func78, Tryz.ntmps78
  go_wp2_with fail
  go_region_held3 (fun w' => w'.cell? ⟨b, 0, none⟩ = some (.iface 153 (.pointer (some ⟨g, 0, none⟩))) ∧ w'.cell? ⟨b + 1, 0, none⟩ = some (.func (.func 60) #[] #[]) ∧ (method 347 153 (.pointer (some ⟨g, 0, none⟩)) "Append").run Tryz.prog w' = .ok (196, .pointer (some ⟨g, 0, none⟩)) w' ∧ (nilAhead 347 153 (.pointer (some ⟨g, 0, none⟩)) "Append").run Tryz.prog w' = .ok (some false) w') (first | exact HM.out _ kk | exact HM4.out _ k4) (first
    | (go_at_call 60; refine (HI.out _ kk).mono ?_; rintro e w3 ⟨rfl, K3⟩; have kk := kk.trans K3 (fun _ _ h => h))
    | (go_at_call 196; refine (HA.out _ kk).mono ?_; rintro e w4 ⟨A4, c4, rfl, hP4, K4, hat4⟩; have k4 := (kk.mono (S' := fun i => i = g ∨ ob A = some i) (fun _ _ h => h.elim)).trans K4 (fun _ _ h => h)))
  all_goals
    go_wp2_with fail
    go_end0
    refine ⟨A4, c4, rfl, hP4, k4, ?_⟩
    rcases hat4 with e | e
    · exact .inl e
    · exact .inr (fun i hi => Nat.le_trans kk.size (e i hi))
end Go.Proofs.YtmdmccjmmljbkaaGreat
