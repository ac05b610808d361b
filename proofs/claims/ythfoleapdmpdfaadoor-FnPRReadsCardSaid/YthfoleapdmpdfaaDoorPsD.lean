/- The specification reads one value from the front of some bytes. Conditions: its table of widths is laid. -/
import Derived.Test.YthfoleapdmpdfaaDoorPsC
namespace Go.Proofs.YthfoleapdmpdfaaDoor
open Go.RowKit Go.Lib
set_option linter.unusedVariables false
theorem results_cell3 {P : Program} {fn : Func} {t u v : Tmp} {ty : TypeId} (h : fn.results = #[.cell t ty, .tmp u, .tmp v]) (tmps : Array Value) (p : Addr) (w : World) (x : Value) (hp : tmps.getD t undef = .pointer (some p)) (hx : (loadVar ty p).run P w = .ok x w) :
    (results fn tmps).run P w = .ok (.tuple #[x, tmps.getD u undef, tmps.getD v undef]) w := by
  have hp2 : tmps[t]?.getD undef = .pointer (some p) := by simpa using hp
  simp [results, h, hp2, asAddr, hx]
def gotE (n : Int) : Ending := .returned (.tuple #[.agg #[.int .u64 0, .int .u64 0, .slice none 0 0, .bool true], .int .i64 n, .bool true])
def gotN (U V : Nat) (n : Int) : Ending := .returned (.tuple #[.agg #[.int .u64 (U : Int), .int .u64 (V : Int), .slice none 0 0, .bool false], .int .i64 n, .bool true])
def G1 (d : List UInt8) (K : Nat) (e : Ending) : Prop := (K ≤ d.length ∧ e = gotN (leNat (d.take (min K 8))) (leNat ((d.drop 8).take (K - 8))) K) ∨ (d.length < K ∧ e = gotE K)
set_option maxRecDepth 100000 in
set_option maxHeartbeats 4000000 in
theorem rdG1 (w : World) (hW : WidthsV w) (A : Option Addr) (c : Nat) (d : List UInt8) (hdl : d.length ≤ 1000) (hR : Rd w 1 A d.length (Lib.byteCells d)) (op : Int) (h1 : 1 ≤ op) (h22 : op ≤ 22) (u : Nat) (v : Int) (P : Option Addr) (n cp : Nat) (h2 : op ≠ 2) (K : Nat) (hK : wd op = K) (hK0 : 0 < K) (hK16 : K ≤ 16) : Calls Tryd.prog 23 #[.slice A d.length c, .agg #[.int .i64 op, .int .u64 (u : Int), .int .u64 v, .slice P n cp]] w fun e w' => G1 d K e ∧ Keeps (fun _ => False) w w' := by
  have hp0 := (Whole.new w 28 #[.int .i64 op, .int .u64 (u : Int), .int .u64 v, .slice P n cp]).alloc (.cells #[.int .u64 0, .int .u64 0, .slice none 0 0, .bool false] 34)
  have hr0 := Whole.new (w.alloc (.cells #[.int .i64 op, .int .u64 (u : Int), .int .u64 v, .slice P n cp] 28)) 34 #[.int .u64 0, .int .u64 0, .slice none 0 0, .bool false]
  rw [World.size_alloc] at hr0
  have K0 := ((Keeps.refl (fun _ => False) w).alloc (.cells #[.int .i64 op, .int .u64 (u : Int), .int .u64 v, .slice P n cp] 28)).alloc (.cells #[.int .u64 0, .int .u64 0, .slice none 0 0, .bool false] 34)
  have HPW := Lib.hid (prWidth _ (hW.new K0) op h1 h22)
  have HP := Lib.hid hp0
  have HR0 := Lib.hid hr0
  have HK0 := Lib.hid K0
  have HRD := Lib.hid hR
  have hKi : (0 : Int) < (K : Int) := by omega
  have hop2 : (op == 2) = false := by simpa using h2
  by_cases hl : K ≤ d.length
  · have HF := Lib.hid (prFixedOk _ A c d K hK16 hl hdl (hR.keeps K0 (fun _ _ h => h)))
    have HL := Lib.hid hl
    obtain ⟨U, hU⟩ : ∃ U, U = leNat (d.take (min K 8)) := ⟨_, rfl⟩
    obtain ⟨V, hV⟩ : ∃ V, V = leNat ((d.drop 8).take (K - 8)) := ⟨_, rfl⟩
    rw [← hU, ← hV] at HF
    have HUV := Lib.hid (And.intro hU hV)
    clear hU hV hR K0 hp0 hr0 hl hdl
    go_enter Tryd.func23, Tryd.ntmps23
    go_wp2_with fail
    refine HPW.out.mono ?_
    rintro e w1 ⟨rfl, rfl⟩
    rw [hK]
    go_wp2_with fail
    refine HF.out.mono ?_
    rintro e w3 ⟨rfl, K3⟩
    have hp := HP.out.keeps K3 (fun h => h)
    have hr := HR0.out.keeps K3 (fun h => h)
    have kk := HK0.out.trans K3 (fun _ _ h => h)
    have p0 : w3.cell? ⟨w.heap.size, 0, none⟩ = some (.int .i64 op) := hp.cell 0
    have p1 : w3.cell? ⟨w.heap.size, 1, none⟩ = some (.int .u64 (u : Int)) := hp.cell 1
    have p2 : w3.cell? ⟨w.heap.size, 2, none⟩ = some (.int .u64 v) := hp.cell 2
    have p3 : w3.cell? ⟨w.heap.size, 3, none⟩ = some (.slice P n cp) := hp.cell 3
    have q0 : w3.cell? ⟨w.heap.size + 1, 0, none⟩ = some (.int .u64 0) := hr.cell 0
    have qz0 : w3.frozen? ⟨w.heap.size + 1, 0, none⟩ = false := hr.frozen 0
    have q1 : w3.cell? ⟨w.heap.size + 1, 1, none⟩ = some (.int .u64 0) := hr.cell 1
    have qz1 : w3.frozen? ⟨w.heap.size + 1, 1, none⟩ = false := hr.frozen 1
    have q2 : w3.cell? ⟨w.heap.size + 1, 2, none⟩ = some (.slice none 0 0) := hr.cell 2
    have qz2 : w3.frozen? ⟨w.heap.size + 1, 2, none⟩ = false := hr.frozen 2
    have q3 : w3.cell? ⟨w.heap.size + 1, 3, none⟩ = some (.bool false) := hr.cell 3
    have qz3 : w3.frozen? ⟨w.heap.size + 1, 3, none⟩ = false := hr.frozen 3
    have pl := hp.lt
    have ql := hr.lt
    have hne : w.heap.size ≠ w.heap.size + 1 := by omega
    have HPp := Lib.hid hp
    clear K3 hp
    go_wp2_with fail
    have r1 := fun o => ((((hr.put 0 (.int .u64 (U : Int))).put 1 (.int .u64 (V : Int))).put 2 (.slice none 0 0)).put 3 (.bool false)).alloc o
    have hld := fun o => run_loadVar_row (P := Tryd.prog) _ (w.heap.size + 1) 34 34 _ (0, 0) _ (r1 o) Tryd.underlying34 rfl infoGot
    have kn := fun o => ((((kk.setCell (p := ⟨w.heap.size + 1, 0, none⟩) (.inr (by show w.heap.size ≤ w.heap.size + 1; omega)) (.int .u64 (U : Int))).setCell (p := ⟨w.heap.size + 1, 1, none⟩) (.inr (by show w.heap.size ≤ w.heap.size + 1; omega)) (.int .u64 (V : Int))).setCell (p := ⟨w.heap.size + 1, 2, none⟩) (.inr (by show w.heap.size ≤ w.heap.size + 1; omega)) (.slice none 0 0)).setCell (p := ⟨w.heap.size + 1, 3, none⟩) (.inr (by show w.heap.size ≤ w.heap.size + 1; omega)) (.bool false)).alloc o
    exact bodyPost_ret (results_cell3 rfl _ ⟨w.heap.size + 1, 0, none⟩ _ _ rfl (hld _)) rfl ⟨.inl ⟨HL.out, by rw [← HUV.out.1, ← HUV.out.2]; rfl⟩, kn _⟩
  · have HF := Lib.hid (prFixedShort ((w.alloc (.cells #[.int .i64 op, .int .u64 (u : Int), .int .u64 v, .slice P n cp] 28)).alloc (.cells #[.int .u64 0, .int .u64 0, .slice none 0 0, .bool false] 34)) A c d.length K hK16 (by omega))
    have HL := Lib.hid hl
    clear hR K0 hp0 hr0 hl hdl
    go_enter Tryd.func23, Tryd.ntmps23
    go_wp2_with fail
    refine HPW.out.mono ?_
    rintro e w1 ⟨rfl, rfl⟩
    rw [hK]
    go_wp2_with fail
    refine HF.out.mono ?_
    rintro e w3 ⟨rfl, K3⟩
    have hp := HP.out.keeps K3 (fun h => h)
    have hr := HR0.out.keeps K3 (fun h => h)
    have kk := HK0.out.trans K3 (fun _ _ h => h)
    have p0 : w3.cell? ⟨w.heap.size, 0, none⟩ = some (.int .i64 op) := hp.cell 0
    have p1 : w3.cell? ⟨w.heap.size, 1, none⟩ = some (.int .u64 (u : Int)) := hp.cell 1
    have p2 : w3.cell? ⟨w.heap.size, 2, none⟩ = some (.int .u64 v) := hp.cell 2
    have p3 : w3.cell? ⟨w.heap.size, 3, none⟩ = some (.slice P n cp) := hp.cell 3
    have q0 : w3.cell? ⟨w.heap.size + 1, 0, none⟩ = some (.int .u64 0) := hr.cell 0
    have qz0 : w3.frozen? ⟨w.heap.size + 1, 0, none⟩ = false := hr.frozen 0
    have q1 : w3.cell? ⟨w.heap.size + 1, 1, none⟩ = some (.int .u64 0) := hr.cell 1
    have qz1 : w3.frozen? ⟨w.heap.size + 1, 1, none⟩ = false := hr.frozen 1
    have q2 : w3.cell? ⟨w.heap.size + 1, 2, none⟩ = some (.slice none 0 0) := hr.cell 2
    have qz2 : w3.frozen? ⟨w.heap.size + 1, 2, none⟩ = false := hr.frozen 2
    have q3 : w3.cell? ⟨w.heap.size + 1, 3, none⟩ = some (.bool false) := hr.cell 3
    have qz3 : w3.frozen? ⟨w.heap.size + 1, 3, none⟩ = false := hr.frozen 3
    have pl := hp.lt
    have ql := hr.lt
    have hne : w.heap.size ≠ w.heap.size + 1 := by omega
    clear K3 hp
    go_wp2_with fail
    have r1 := fun o => ((((hr.put 0 (.int .u64 0)).put 1 (.int .u64 0)).put 2 (.slice none 0 0)).put 3 (.bool true)).alloc o
    have hld := fun o => run_loadVar_row (P := Tryd.prog) _ (w.heap.size + 1) 34 34 _ (0, 0) _ (r1 o) Tryd.underlying34 rfl infoGot
    have kn := fun o => ((((kk.setCell (p := ⟨w.heap.size + 1, 0, none⟩) (.inr (by show w.heap.size ≤ w.heap.size + 1; omega)) (.int .u64 0)).setCell (p := ⟨w.heap.size + 1, 1, none⟩) (.inr (by show w.heap.size ≤ w.heap.size + 1; omega)) (.int .u64 0)).setCell (p := ⟨w.heap.size + 1, 2, none⟩) (.inr (by show w.heap.size ≤ w.heap.size + 1; omega)) (.slice none 0 0)).setCell (p := ⟨w.heap.size + 1, 3, none⟩) (.inr (by show w.heap.size ≤ w.heap.size + 1; omega)) (.bool true)).alloc o
    exact bodyPost_ret (results_cell3 rfl _ ⟨w.heap.size + 1, 0, none⟩ _ _ rfl (hld _)) rfl ⟨.inr ⟨by have := HL.out; omega, rfl⟩, kn _⟩
def G2 (d : List UInt8) (e : Ending) : Prop := (∃ U V S l, boolM d = some (U, V, S, l) ∧ V = 0 ∧ S = [] ∧ d = UInt8.ofNat U :: l ∧ e = gotN U 0 1) ∨ (boolM d = none ∧ e = gotE 1)
set_option maxRecDepth 100000 in
set_option maxHeartbeats 4000000 in
theorem rdG2 (w : World) (hW : WidthsV w) (A : Option Addr) (c : Nat) (d : List UInt8) (hdl : d.length ≤ 1000) (hR : Rd w 1 A d.length (Lib.byteCells d)) (op : Int) (h1 : 1 ≤ op) (h22 : op ≤ 22) (u : Nat) (v : Int) (P : Option Addr) (n cp : Nat) (h2 : op = 2) : Calls Tryd.prog 23 #[.slice A d.length c, .agg #[.int .i64 op, .int .u64 (u : Int), .int .u64 v, .slice P n cp]] w fun e w' => G2 d e ∧ Keeps (fun _ => False) w w' := by
  have hp0 := (Whole.new w 28 #[.int .i64 op, .int .u64 (u : Int), .int .u64 v, .slice P n cp]).alloc (.cells #[.int .u64 0, .int .u64 0, .slice none 0 0, .bool false] 34)
  have hr0 := Whole.new (w.alloc (.cells #[.int .i64 op, .int .u64 (u : Int), .int .u64 v, .slice P n cp] 28)) 34 #[.int .u64 0, .int .u64 0, .slice none 0 0, .bool false]
  rw [World.size_alloc] at hr0
  have K0 := ((Keeps.refl (fun _ => False) w).alloc (.cells #[.int .i64 op, .int .u64 (u : Int), .int .u64 v, .slice P n cp] 28)).alloc (.cells #[.int .u64 0, .int .u64 0, .slice none 0 0, .bool false] 34)
  have HPW := Lib.hid (prWidth _ (hW.new K0) op h1 h22)
  have HP := Lib.hid hp0
  have HR0 := Lib.hid hr0
  have HK0 := Lib.hid K0
  have HRD := Lib.hid hR
  subst h2
  rcases hd : d with _ | ⟨b, l⟩
  · subst hd
    have HF := Lib.hid (prFixedShort ((w.alloc (.cells #[.int .i64 2, .int .u64 (u : Int), .int .u64 v, .slice P n cp] 28)).alloc (.cells #[.int .u64 0, .int .u64 0, .slice none 0 0, .bool false] 34)) A c 0 1 (by omega) (by omega))
    clear hR K0 hp0 hr0 hdl
    simp only [List.length_nil]
    go_enter Tryd.func23, Tryd.ntmps23
    go_wp2_with fail
    refine HPW.out.mono ?_
    rintro e w1 ⟨rfl, rfl⟩
    rw [show wd 2 = 1 by decide]
    go_wp2_with fail
    refine HF.out.mono ?_
    rintro e w3 ⟨rfl, K3⟩
    have hp := HP.out.keeps K3 (fun h => h)
    have hr := HR0.out.keeps K3 (fun h => h)
    have kk := HK0.out.trans K3 (fun _ _ h => h)
    have p0 : w3.cell? ⟨w.heap.size, 0, none⟩ = some (.int .i64 2) := hp.cell 0
    have p1 : w3.cell? ⟨w.heap.size, 1, none⟩ = some (.int .u64 (u : Int)) := hp.cell 1
    have p2 : w3.cell? ⟨w.heap.size, 2, none⟩ = some (.int .u64 v) := hp.cell 2
    have p3 : w3.cell? ⟨w.heap.size, 3, none⟩ = some (.slice P n cp) := hp.cell 3
    have q0 : w3.cell? ⟨w.heap.size + 1, 0, none⟩ = some (.int .u64 0) := hr.cell 0
    have qz0 : w3.frozen? ⟨w.heap.size + 1, 0, none⟩ = false := hr.frozen 0
    have q1 : w3.cell? ⟨w.heap.size + 1, 1, none⟩ = some (.int .u64 0) := hr.cell 1
    have qz1 : w3.frozen? ⟨w.heap.size + 1, 1, none⟩ = false := hr.frozen 1
    have q2 : w3.cell? ⟨w.heap.size + 1, 2, none⟩ = some (.slice none 0 0) := hr.cell 2
    have qz2 : w3.frozen? ⟨w.heap.size + 1, 2, none⟩ = false := hr.frozen 2
    have q3 : w3.cell? ⟨w.heap.size + 1, 3, none⟩ = some (.bool false) := hr.cell 3
    have qz3 : w3.frozen? ⟨w.heap.size + 1, 3, none⟩ = false := hr.frozen 3
    have pl := hp.lt
    have ql := hr.lt
    have hne : w.heap.size ≠ w.heap.size + 1 := by omega
    clear K3 hp
    go_wp2_with fail
    have r1 := fun o => ((((hr.put 0 (.int .u64 0)).put 1 (.int .u64 0)).put 2 (.slice none 0 0)).put 3 (.bool true)).alloc o
    have hld := fun o => run_loadVar_row (P := Tryd.prog) _ (w.heap.size + 1) 34 34 _ (0, 0) _ (r1 o) Tryd.underlying34 rfl infoGot
    have kn := fun o => ((((kk.setCell (p := ⟨w.heap.size + 1, 0, none⟩) (.inr (by show w.heap.size ≤ w.heap.size + 1; omega)) (.int .u64 0)).setCell (p := ⟨w.heap.size + 1, 1, none⟩) (.inr (by show w.heap.size ≤ w.heap.size + 1; omega)) (.int .u64 0)).setCell (p := ⟨w.heap.size + 1, 2, none⟩) (.inr (by show w.heap.size ≤ w.heap.size + 1; omega)) (.slice none 0 0)).setCell (p := ⟨w.heap.size + 1, 3, none⟩) (.inr (by show w.heap.size ≤ w.heap.size + 1; omega)) (.bool true)).alloc o
    exact bodyPost_ret (results_cell3 rfl _ ⟨w.heap.size + 1, 0, none⟩ _ _ rfl (hld _)) rfl ⟨.inr ⟨rfl, rfl⟩, kn _⟩
  · subst hd
    have HF := Lib.hid (prFixedOk _ A c (b :: l) 1 (by omega) (by simp) hdl (hR.keeps K0 (fun _ _ h => h)))
    rw [show leNat ((b :: l).take (min 1 8)) = b.toNat by simp [leNat], show leNat (((b :: l).drop 8).take (1 - 8)) = 0 by simp [leNat]] at HF
    obtain ⟨x, hx⟩ : ∃ x, x = b.toNat := ⟨_, rfl⟩
    obtain ⟨m, hm⟩ : ∃ m, m = (b :: l).length := ⟨_, rfl⟩
    rw [← hx, ← hm] at HF
    rw [← hm]
    have HX := Lib.hid hx
    clear hx hm hR K0 hp0 hr0 hdl
    go_enter Tryd.func23, Tryd.ntmps23
    go_wp2_with fail
    refine HPW.out.mono ?_
    rintro e w1 ⟨rfl, rfl⟩
    rw [show wd 2 = 1 by decide]
    go_wp2_with fail
    refine HF.out.mono ?_
    rintro e w3 ⟨rfl, K3⟩
    have hp := HP.out.keeps K3 (fun h => h)
    have hr := HR0.out.keeps K3 (fun h => h)
    have kk := HK0.out.trans K3 (fun _ _ h => h)
    have p0 : w3.cell? ⟨w.heap.size, 0, none⟩ = some (.int .i64 2) := hp.cell 0
    have p1 : w3.cell? ⟨w.heap.size, 1, none⟩ = some (.int .u64 (u : Int)) := hp.cell 1
    have p2 : w3.cell? ⟨w.heap.size, 2, none⟩ = some (.int .u64 v) := hp.cell 2
    have p3 : w3.cell? ⟨w.heap.size, 3, none⟩ = some (.slice P n cp) := hp.cell 3
    have q0 : w3.cell? ⟨w.heap.size + 1, 0, none⟩ = some (.int .u64 0) := hr.cell 0
    have qz0 : w3.frozen? ⟨w.heap.size + 1, 0, none⟩ = false := hr.frozen 0
    have q1 : w3.cell? ⟨w.heap.size + 1, 1, none⟩ = some (.int .u64 0) := hr.cell 1
    have qz1 : w3.frozen? ⟨w.heap.size + 1, 1, none⟩ = false := hr.frozen 1
    have q2 : w3.cell? ⟨w.heap.size + 1, 2, none⟩ = some (.slice none 0 0) := hr.cell 2
    have qz2 : w3.frozen? ⟨w.heap.size + 1, 2, none⟩ = false := hr.frozen 2
    have q3 : w3.cell? ⟨w.heap.size + 1, 3, none⟩ = some (.bool false) := hr.cell 3
    have qz3 : w3.frozen? ⟨w.heap.size + 1, 3, none⟩ = false := hr.frozen 3
    have pl := hp.lt
    have ql := hr.lt
    have hne : w.heap.size ≠ w.heap.size + 1 := by omega
    clear K3 hp
    by_cases hb : x ≤ 1
    · have hbi : ¬ (1 : Int) < (x : Int) := by omega
      go_wp2_with fail
      have r1 := fun o => ((((hr.put 0 (.int .u64 (x : Int))).put 1 (.int .u64 0)).put 2 (.slice none 0 0)).put 3 (.bool false)).alloc o
      have hld := fun o => run_loadVar_row (P := Tryd.prog) _ (w.heap.size + 1) 34 34 _ (0, 0) _ (r1 o) Tryd.underlying34 rfl infoGot
      have kn := fun o => ((((kk.setCell (p := ⟨w.heap.size + 1, 0, none⟩) (.inr (by show w.heap.size ≤ w.heap.size + 1; omega)) (.int .u64 (x : Int))).setCell (p := ⟨w.heap.size + 1, 1, none⟩) (.inr (by show w.heap.size ≤ w.heap.size + 1; omega)) (.int .u64 0)).setCell (p := ⟨w.heap.size + 1, 2, none⟩) (.inr (by show w.heap.size ≤ w.heap.size + 1; omega)) (.slice none 0 0)).setCell (p := ⟨w.heap.size + 1, 3, none⟩) (.inr (by show w.heap.size ≤ w.heap.size + 1; omega)) (.bool false)).alloc o
      exact bodyPost_ret (results_cell3 rfl _ ⟨w.heap.size + 1, 0, none⟩ _ _ rfl (hld _)) rfl ⟨.inl ⟨x, 0, [], l, by rw [boolM, if_pos (by rw [← HX.out]; exact hb), ← HX.out], rfl, rfl, by rw [HX.out]; simp, rfl⟩, kn _⟩
    · have hbi : (1 : Int) < (x : Int) := by omega
      go_wp2_with fail
      have r1 := fun o => ((((hr.put 0 (.int .u64 0)).put 1 (.int .u64 0)).put 2 (.slice none 0 0)).put 3 (.bool true)).alloc o
      have hld := fun o => run_loadVar_row (P := Tryd.prog) _ (w.heap.size + 1) 34 34 _ (0, 0) _ (r1 o) Tryd.underlying34 rfl infoGot
      have kn := fun o => ((((kk.setCell (p := ⟨w.heap.size + 1, 0, none⟩) (.inr (by show w.heap.size ≤ w.heap.size + 1; omega)) (.int .u64 0)).setCell (p := ⟨w.heap.size + 1, 1, none⟩) (.inr (by show w.heap.size ≤ w.heap.size + 1; omega)) (.int .u64 0)).setCell (p := ⟨w.heap.size + 1, 2, none⟩) (.inr (by show w.heap.size ≤ w.heap.size + 1; omega)) (.slice none 0 0)).setCell (p := ⟨w.heap.size + 1, 3, none⟩) (.inr (by show w.heap.size ≤ w.heap.size + 1; omega)) (.bool true)).alloc o
      exact bodyPost_ret (results_cell3 rfl _ ⟨w.heap.size + 1, 0, none⟩ _ _ rfl (hld _)) rfl ⟨.inr ⟨by rw [boolM, if_neg (by rw [← HX.out]; exact hb)], rfl⟩, kn _⟩
def G3 (d : List UInt8) (e : Ending) : Prop :=
  (∃ x l, uvGo 10 0 0 d = some (x, l) ∧ l.length ≤ d.length ∧ e = gotN x 0 ((d.length - l.length : Nat) : Int)) ∨ (uvGo 10 0 0 d = none ∧ e = gotE 0)
set_option maxRecDepth 100000 in
set_option maxHeartbeats 4000000 in
theorem rdG3 (w : World) (hW : WidthsV w) (A : Option Addr) (c : Nat) (d : List UInt8) (hdl : d.length ≤ 1000) (hR : Rd w 1 A d.length (Lib.byteCells d)) (op : Int) (h1 : 1 ≤ op) (h22 : op ≤ 22) (u : Nat) (v : Int) (P : Option Addr) (n cp : Nat) (h2 : op = 15 ∨ op = 16) : Calls Tryd.prog 23 #[.slice A d.length c, .agg #[.int .i64 op, .int .u64 (u : Int), .int .u64 v, .slice P n cp]] w fun e w' => G3 d e ∧ Keeps (fun _ => False) w w' := by
  have hp0 := (Whole.new w 28 #[.int .i64 op, .int .u64 (u : Int), .int .u64 v, .slice P n cp]).alloc (.cells #[.int .u64 0, .int .u64 0, .slice none 0 0, .bool false] 34)
  have hr0 := Whole.new (w.alloc (.cells #[.int .i64 op, .int .u64 (u : Int), .int .u64 v, .slice P n cp] 28)) 34 #[.int .u64 0, .int .u64 0, .slice none 0 0, .bool false]
  rw [World.size_alloc] at hr0
  have K0 := ((Keeps.refl (fun _ => False) w).alloc (.cells #[.int .i64 op, .int .u64 (u : Int), .int .u64 v, .slice P n cp] 28)).alloc (.cells #[.int .u64 0, .int .u64 0, .slice none 0 0, .bool false] 34)
  have HPW := Lib.hid (prWidth _ (hW.new K0) op h1 h22)
  have HP := Lib.hid hp0
  have HR0 := Lib.hid hr0
  have HK0 := Lib.hid K0
  have HRD := Lib.hid hR
  have HV := Lib.hid (prVarOk _ A c d hdl (hR.keeps K0 (fun _ _ h => h)))
  clear hR K0 hp0 hr0 hdl
  have h15 : ((op == 15) = true) ∨ ((op == 15) = false ∧ (op == 16) = true) := by
    rcases h2 with rfl | rfl
    · exact .inl rfl
    · exact .inr ⟨rfl, rfl⟩
  rw [show wd op = 0 by rcases h2 with rfl | rfl <;> decide] at HPW
  clear h2
  rcases h15 with h15 | ⟨h15, h16⟩
  all_goals
    go_enter Tryd.func23, Tryd.ntmps23
    go_wp2_with fail
    refine HPW.out.mono ?_
    rintro e w1 ⟨rfl, rfl⟩
    have hp := HP.out
    have hr := HR0.out
    have p0 : ((w.alloc (.cells #[.int .i64 op, .int .u64 (u : Int), .int .u64 v, .slice P n cp] 28)).alloc (.cells #[.int .u64 0, .int .u64 0, .slice none 0 0, .bool false] 34)).cell? ⟨w.heap.size, 0, none⟩ = some (.int .i64 op) := hp.cell 0
    have p1 : ((w.alloc (.cells #[.int .i64 op, .int .u64 (u : Int), .int .u64 v, .slice P n cp] 28)).alloc (.cells #[.int .u64 0, .int .u64 0, .slice none 0 0, .bool false] 34)).cell? ⟨w.heap.size, 1, none⟩ = some (.int .u64 (u : Int)) := hp.cell 1
    have p2 : ((w.alloc (.cells #[.int .i64 op, .int .u64 (u : Int), .int .u64 v, .slice P n cp] 28)).alloc (.cells #[.int .u64 0, .int .u64 0, .slice none 0 0, .bool false] 34)).cell? ⟨w.heap.size, 2, none⟩ = some (.int .u64 v) := hp.cell 2
    have p3 : ((w.alloc (.cells #[.int .i64 op, .int .u64 (u : Int), .int .u64 v, .slice P n cp] 28)).alloc (.cells #[.int .u64 0, .int .u64 0, .slice none 0 0, .bool false] 34)).cell? ⟨w.heap.size, 3, none⟩ = some (.slice P n cp) := hp.cell 3
    have q0 : ((w.alloc (.cells #[.int .i64 op, .int .u64 (u : Int), .int .u64 v, .slice P n cp] 28)).alloc (.cells #[.int .u64 0, .int .u64 0, .slice none 0 0, .bool false] 34)).cell? ⟨w.heap.size + 1, 0, none⟩ = some (.int .u64 0) := hr.cell 0
    have qz0 : ((w.alloc (.cells #[.int .i64 op, .int .u64 (u : Int), .int .u64 v, .slice P n cp] 28)).alloc (.cells #[.int .u64 0, .int .u64 0, .slice none 0 0, .bool false] 34)).frozen? ⟨w.heap.size + 1, 0, none⟩ = false := hr.frozen 0
    have q1 : ((w.alloc (.cells #[.int .i64 op, .int .u64 (u : Int), .int .u64 v, .slice P n cp] 28)).alloc (.cells #[.int .u64 0, .int .u64 0, .slice none 0 0, .bool false] 34)).cell? ⟨w.heap.size + 1, 1, none⟩ = some (.int .u64 0) := hr.cell 1
    have qz1 : ((w.alloc (.cells #[.int .i64 op, .int .u64 (u : Int), .int .u64 v, .slice P n cp] 28)).alloc (.cells #[.int .u64 0, .int .u64 0, .slice none 0 0, .bool false] 34)).frozen? ⟨w.heap.size + 1, 1, none⟩ = false := hr.frozen 1
    have q2 : ((w.alloc (.cells #[.int .i64 op, .int .u64 (u : Int), .int .u64 v, .slice P n cp] 28)).alloc (.cells #[.int .u64 0, .int .u64 0, .slice none 0 0, .bool false] 34)).cell? ⟨w.heap.size + 1, 2, none⟩ = some (.slice none 0 0) := hr.cell 2
    have qz2 : ((w.alloc (.cells #[.int .i64 op, .int .u64 (u : Int), .int .u64 v, .slice P n cp] 28)).alloc (.cells #[.int .u64 0, .int .u64 0, .slice none 0 0, .bool false] 34)).frozen? ⟨w.heap.size + 1, 2, none⟩ = false := hr.frozen 2
    have q3 : ((w.alloc (.cells #[.int .i64 op, .int .u64 (u : Int), .int .u64 v, .slice P n cp] 28)).alloc (.cells #[.int .u64 0, .int .u64 0, .slice none 0 0, .bool false] 34)).cell? ⟨w.heap.size + 1, 3, none⟩ = some (.bool false) := hr.cell 3
    have qz3 : ((w.alloc (.cells #[.int .i64 op, .int .u64 (u : Int), .int .u64 v, .slice P n cp] 28)).alloc (.cells #[.int .u64 0, .int .u64 0, .slice none 0 0, .bool false] 34)).frozen? ⟨w.heap.size + 1, 3, none⟩ = false := hr.frozen 3
    have pl := hp.lt
    have ql := hr.lt
    have hne : w.heap.size ≠ w.heap.size + 1 := by omega
    go_wp2_with fail
    clear p0 p1 p2 p3 q0 q1 q2 q3 qz0 qz1 qz2 qz3 pl ql hne hp hr
    refine HV.out.mono ?_
    rintro e w3 ⟨hvr, K3⟩
    have hp := HP.out.keeps K3 (fun h => h)
    have hr := HR0.out.keeps K3 (fun h => h)
    have kk := HK0.out.trans K3 (fun _ _ h => h)
    have p0 : w3.cell? ⟨w.heap.size, 0, none⟩ = some (.int .i64 op) := hp.cell 0
    have p1 : w3.cell? ⟨w.heap.size, 1, none⟩ = some (.int .u64 (u : Int)) := hp.cell 1
    have p2 : w3.cell? ⟨w.heap.size, 2, none⟩ = some (.int .u64 v) := hp.cell 2
    have p3 : w3.cell? ⟨w.heap.size, 3, none⟩ = some (.slice P n cp) := hp.cell 3
    have q0 : w3.cell? ⟨w.heap.size + 1, 0, none⟩ = some (.int .u64 0) := hr.cell 0
    have qz0 : w3.frozen? ⟨w.heap.size + 1, 0, none⟩ = false := hr.frozen 0
    have q1 : w3.cell? ⟨w.heap.size + 1, 1, none⟩ = some (.int .u64 0) := hr.cell 1
    have qz1 : w3.frozen? ⟨w.heap.size + 1, 1, none⟩ = false := hr.frozen 1
    have q2 : w3.cell? ⟨w.heap.size + 1, 2, none⟩ = some (.slice none 0 0) := hr.cell 2
    have qz2 : w3.frozen? ⟨w.heap.size + 1, 2, none⟩ = false := hr.frozen 2
    have q3 : w3.cell? ⟨w.heap.size + 1, 3, none⟩ = some (.bool false) := hr.cell 3
    have qz3 : w3.frozen? ⟨w.heap.size + 1, 3, none⟩ = false := hr.frozen 3
    have pl := hp.lt
    have ql := hr.lt
    have hne : w.heap.size ≠ w.heap.size + 1 := by omega
    clear K3 hp
    rcases hvr with ⟨x, l, hu, hll, rfl⟩ | ⟨hu, rfl⟩
    · have HU := Lib.hid (And.intro hu hll)
      obtain ⟨m, hm⟩ : ∃ m : Nat, m = d.length - l.length := ⟨_, rfl⟩
      rw [← hm]
      have HM := Lib.hid hm
      clear hu hll hm
      go_wp2_with fail
      have r1 := fun o => ((((hr.put 0 (.int .u64 (x : Int))).put 1 (.int .u64 0)).put 2 (.slice none 0 0)).put 3 (.bool false)).alloc o
      have hld := fun o => run_loadVar_row (P := Tryd.prog) _ (w.heap.size + 1) 34 34 _ (0, 0) _ (r1 o) Tryd.underlying34 rfl infoGot
      have kn := fun o => ((((kk.setCell (p := ⟨w.heap.size + 1, 0, none⟩) (.inr (by show w.heap.size ≤ w.heap.size + 1; omega)) (.int .u64 (x : Int))).setCell (p := ⟨w.heap.size + 1, 1, none⟩) (.inr (by show w.heap.size ≤ w.heap.size + 1; omega)) (.int .u64 0)).setCell (p := ⟨w.heap.size + 1, 2, none⟩) (.inr (by show w.heap.size ≤ w.heap.size + 1; omega)) (.slice none 0 0)).setCell (p := ⟨w.heap.size + 1, 3, none⟩) (.inr (by show w.heap.size ≤ w.heap.size + 1; omega)) (.bool false)).alloc o
      exact bodyPost_ret (results_cell3 rfl _ ⟨w.heap.size + 1, 0, none⟩ _ _ rfl (hld _)) rfl ⟨.inl ⟨x, l, HU.out.1, HU.out.2, by rw [← HM.out]; rfl⟩, kn _⟩
    · have HU := Lib.hid hu
      clear hu
      go_wp2_with fail
      have r1 := fun o => ((((hr.put 0 (.int .u64 0)).put 1 (.int .u64 0)).put 2 (.slice none 0 0)).put 3 (.bool true)).alloc o
      have hld := fun o => run_loadVar_row (P := Tryd.prog) _ (w.heap.size + 1) 34 34 _ (0, 0) _ (r1 o) Tryd.underlying34 rfl infoGot
      have kn := fun o => ((((kk.setCell (p := ⟨w.heap.size + 1, 0, none⟩) (.inr (by show w.heap.size ≤ w.heap.size + 1; omega)) (.int .u64 0)).setCell (p := ⟨w.heap.size + 1, 1, none⟩) (.inr (by show w.heap.size ≤ w.heap.size + 1; omega)) (.int .u64 0)).setCell (p := ⟨w.heap.size + 1, 2, none⟩) (.inr (by show w.heap.size ≤ w.heap.size + 1; omega)) (.slice none 0 0)).setCell (p := ⟨w.heap.size + 1, 3, none⟩) (.inr (by show w.heap.size ≤ w.heap.size + 1; omega)) (.bool true)).alloc o
      exact bodyPost_ret (results_cell3 rfl _ ⟨w.heap.size + 1, 0, none⟩ _ _ rfl (hld _)) rfl ⟨.inr ⟨HU.out, rfl⟩, kn _⟩
end Go.Proofs.YthfoleapdmpdfaaDoor
