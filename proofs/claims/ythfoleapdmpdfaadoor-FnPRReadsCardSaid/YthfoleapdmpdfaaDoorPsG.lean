/- The specification reads a string, or its length, from the front of some bytes. Conditions: its table of widths is laid. -/
import Derived.Test.YthfoleapdmpdfaaDoorPsE
import Derived.Deep.RegionHeld3
namespace Go.Proofs.YthfoleapdmpdfaaDoor
open Go.RowKit Go.Lib
set_option linter.unusedVariables false
theorem uvGo_suffix : ∀ (k i acc : Nat) (d : List UInt8) (x : Nat) (l : List UInt8), uvGo k i acc d = some (x, l) → l = d.drop (d.length - l.length) ∧ l.length ≤ d.length
  | 0, _, _, _, _, _, h => by rw [uvGo_zero] at h; cases h
  | _ + 1, _, _, [], _, _, h => by cases h
  | k + 1, i, acc, b :: t, x, l, h => by
    unfold uvGo at h
    split at h
    · split at h
      · cases h
      · injection h with h
        injection h with h1 h2
        subst h2
        refine ⟨?_, by simp⟩
        rw [List.length_cons, show t.length + 1 - t.length = 1 by omega]
        rfl
    · obtain ⟨h1, h2⟩ := uvGo_suffix k (i + 1) _ t x l h
      refine ⟨?_, by rw [List.length_cons]; omega⟩
      rw [List.length_cons, show t.length + 1 - l.length = (t.length - l.length) + 1 by omega, List.drop_succ_cons]
      exact h1
theorem rd_drop {w : World} {ad : Addr} {n k : Nat} {d : List UInt8} (h : Rd w 1 (some ad) n (Lib.byteCells d)) (hk : k ≤ n) : Rd w 1 (some (ad.add k)) (n - k) (Lib.byteCells (d.drop k)) := by
  have := h.cut (k := k) hk
  simpa [Lib.byteCells, List.map_drop] using this
def gotX (x : Nat) (n : Int) : Ending := .returned (.tuple #[.agg #[.int .u64 (x : Int), .int .u64 0, .slice none 0 0, .bool false], .int .i64 n, .bool false])
inductive G5 (wz : Nat) (w' : World) (d : List UInt8) (op : Int) (s0 : List UInt8) (e : Ending) : Prop
  | bad (h : uvGo 10 0 0 d = none) (he : e = gotE 0)
  | big (x : Nat) (l : List UInt8) (h : uvGo 10 0 0 d = some (x, l)) (hx : 1000 < x) (n : Int) (he : e = gotX x n)
  | len (x : Nat) (l : List UInt8) (h : uvGo 10 0 0 d = some (x, l)) (hx : x ≤ 1000) (ho : op = 17) (he : e = gotN x 0 ((d.length - l.length : Nat) : Int))
  | short (x : Nat) (l : List UInt8) (h : uvGo 10 0 0 d = some (x, l)) (hx : x ≤ 1000) (ho : op ≠ 17) (hl : l.length < x) (he : e = gotE 0)
  | good (x : Nat) (l : List UInt8) (h : uvGo 10 0 0 d = some (x, l)) (hx : x ≤ 1000) (ho : op ≠ 17) (hl : x ≤ l.length) (A' : Option Addr) (c' : Nat) (S : List UInt8) (hS : S = (if op = 22 then s0 else []) ++ l.take x) (he : e = gotS A' S.length c' ((d.length - l.length + x : Nat) : Int)) (hr : Rd w' 1 A' S.length (Lib.byteCells S)) (hf : ∀ i, ob A' = some i → wz ≤ i)
set_option maxRecDepth 100000 in
set_option maxHeartbeats 4000000 in
theorem rdG5 (w : World) (hW : WidthsV w) (A : Option Addr) (c : Nat) (d : List UInt8) (hdl : d.length ≤ 1000) (hR : Rd w 1 A d.length (Lib.byteCells d)) (op : Int) (h1 : 1 ≤ op) (h22 : op ≤ 22) (u : Nat) (v : Int) (P : Option Addr) (n cp : Nat) (h2 : op = 17 ∨ op = 18 ∨ op = 20 ∨ op = 21 ∨ op = 22) (hc : d.length ≤ c) (s0 : List UInt8) (hn : n = s0.length) (hP : Rd w 1 P n (Lib.byteCells s0)) (hs0 : s0.length ≤ 1000) : Calls Tryd.prog 23 #[.slice A d.length c, .agg #[.int .i64 op, .int .u64 (u : Int), .int .u64 v, .slice P n cp]] w fun e w' => G5 w.heap.size w' d op s0 e ∧ Keeps (fun _ => False) w w' := by
  have hp0 := (Whole.new w 28 #[.int .i64 op, .int .u64 (u : Int), .int .u64 v, .slice P n cp]).alloc (.cells #[.int .u64 0, .int .u64 0, .slice none 0 0, .bool false] 34)
  have hr0 := Whole.new (w.alloc (.cells #[.int .i64 op, .int .u64 (u : Int), .int .u64 v, .slice P n cp] 28)) 34 #[.int .u64 0, .int .u64 0, .slice none 0 0, .bool false]
  rw [World.size_alloc] at hr0
  have K0 := ((Keeps.refl (fun _ => False) w).alloc (.cells #[.int .i64 op, .int .u64 (u : Int), .int .u64 v, .slice P n cp] 28)).alloc (.cells #[.int .u64 0, .int .u64 0, .slice none 0 0, .bool false] 34)
  have HPW := Lib.hid (prWidth _ (hW.new K0) op h1 h22)
  have HP := Lib.hid hp0
  have HR0 := Lib.hid hr0
  have HK0 := Lib.hid K0
  have HRD := Lib.hid hR
  have HV := Lib.hid (prVarOk _ A c d hdl (hR.keeps K0 (fun _ _ h => h)))
  have e15 : (op == 15) = false := by rcases h2 with rfl | rfl | rfl | rfl | rfl <;> rfl
  have e16 : (op == 16) = false := by rcases h2 with rfl | rfl | rfl | rfl | rfl <;> rfl
  have e19 : (op == 19) = false := by rcases h2 with rfl | rfl | rfl | rfl | rfl <;> rfl
  rw [show wd op = 0 by rcases h2 with rfl | rfl | rfl | rfl | rfl <;> decide] at HPW
  have HDL := Lib.hid (And.intro hdl hc)
  have HPR := Lib.hid hP
  have HSN := Lib.hid (And.intro hn hs0)
  obtain ⟨m, hm⟩ : ∃ m, m = d.length := ⟨_, rfl⟩
  have HM := Lib.hid hm
  rw [← hm] at HV hc ⊢
  clear hm hR K0 hp0 hr0 h2 hdl hP hn hs0
  go_enter Tryd.func23, Tryd.ntmps23
  go_wp2_with fail
  refine HPW.out.mono ?_
  rintro e w1 ⟨rfl, rfl⟩
  have hp := HP.out
  have hr := HR0.out
  have p0 : ((w.alloc (.cells #[.int .i64 op, .int .u64 (u : Int), .int .u64 v, .slice P n cp] 28)).alloc (.cells #[.int .u64 0, .int .u64 0, .slice none 0 0, .bool false] 34)).cell? ⟨w.heap.size, 0, none⟩ = some (.int .i64 op) := hp.cell 0
  have p1 : ((w.alloc (.cells #[.int .i64 op, .int .u64 (u : Int), .int .u64 v, .slice P n cp] 28)).alloc (.cells #[.int .u64 0, .int .u64 0, .slice none 0 0, .bool false] 34)).cell? ⟨w.heap.size, 1, none⟩ = some (.int .u64 (u : Int)) := hp.cell 1
  have p2 : ((w.alloc (.cells #[.int .i64 op, .int .u64 (u : Int), .int .u64 v, .slice P n cp] 28)).alloc (.cells #[.int .u64 0, .int .u64 0, .slice none 0 0, .bool false] 34)).cell? ⟨w.heap.size, 2, none⟩ = some (.int .u64 v) := hp.cell 2
  have p3 : ((w.alloc (.cells #[.int .i64 op, .int .u64 (u : Int), .int .u64 v, .slice P n cp] 28)).alloc (.cells #[.int .u64 0, .int .u64 0, .slice none 0 0, .bool false] 34)).cell? ⟨w.heap.size, 3, none⟩ = some (.slice P n cp) := hp.cell 3
  have q0 : ((w.alloc (.cells #[.int .i64 op, .int .u64 (u : Int), .int .u64 v, .slice P n cp] 28)).alloc (.cells #[.int .u64 0, .int .u64 0, .slice none 0 0, .bool false] 34)).cell? ⟨w.heap.size + 1, 0, none⟩ = some (.int .u64 0) := hr.cell 0
  have qz0 : ((w.alloc (.cells #[.int .i64 op, .int .u64 (u : Int), .int .u64 v, .slice P n cp] 28)).alloc (.cells #[.int .u64 0, .int .u64 0, .slice none 0 0, .bool false] 34)).frozen? ⟨w.heap.size + 1, 0, none⟩ = false := hr.frozen 0
  have q1 : ((w.alloc (.cells #[.int .i64 op, .int .u64 (u : Int), .int .u64 v, .slice P n cp] 28)).alloc (.cells #[.int .u64 0, .int .u64 0, .slice none 0 0, .bool false] 34)).cell? ⟨w.heap.size + 1, 1, none⟩ = some (.int .u64 0) := hr.cell 1
  have qz1 : ((w.alloc (.cells #[.int .i64 op, .int .u64 (u : Int), .int .u64 v, .slice P n cp] 28)).alloc (.cells #[.int .u64 0, .int .u64 0, .slice none 0 0, .bool false] 34)).frozen? ⟨w.heap.size + 1, 1, none⟩ = false := hr.frozen 1
  have q2 : ((w.alloc (.cells #[.int .i64 op, .int .u64 (u : Int), .int .u64 v, .slice P n cp] 28)).alloc (.cells #[.int .u64 0, .int .u64 0, .slice none 0 0, .bool false] 34)).cell? ⟨w.heap.size + 1, 2, none⟩ = some (.slice none 0 0) := hr.cell 2
  have qz2 : ((w.alloc (.cells #[.int .i64 op, .int .u64 (u : Int), .int .u64 v, .slice P n cp] 28)).alloc (.cells #[.int .u64 0, .int .u64 0, .slice none 0 0, .bool false] 34)).frozen? ⟨w.heap.size + 1, 2, none⟩ = false := hr.frozen 2
  have q3 : ((w.alloc (.cells #[.int .i64 op, .int .u64 (u : Int), .int .u64 v, .slice P n cp] 28)).alloc (.cells #[.int .u64 0, .int .u64 0, .slice none 0 0, .bool false] 34)).cell? ⟨w.heap.size + 1, 3, none⟩ = some (.bool false) := hr.cell 3
  have qz3 : ((w.alloc (.cells #[.int .i64 op, .int .u64 (u : Int), .int .u64 v, .slice P n cp] 28)).alloc (.cells #[.int .u64 0, .int .u64 0, .slice none 0 0, .bool false] 34)).frozen? ⟨w.heap.size + 1, 3, none⟩ = false := hr.frozen 3
  have pl := hp.lt
  have ql := hr.lt
  have hne : w.heap.size ≠ w.heap.size + 1 := by omega
  go_wp2_with fail
  clear p0 p1 p2 p3 q0 q1 q2 q3 qz0 qz1 qz2 qz3 pl ql hne hp hr
  refine HV.out.mono ?_
  rintro e w3 ⟨hvr, K3⟩
  have hp := HP.out.keeps K3 (fun h => h)
  have hr := HR0.out.keeps K3 (fun h => h)
  have kk := HK0.out.trans K3 (fun _ _ h => h)
  have p0 : w3.cell? ⟨w.heap.size, 0, none⟩ = some (.int .i64 op) := hp.cell 0
  have p1 : w3.cell? ⟨w.heap.size, 1, none⟩ = some (.int .u64 (u : Int)) := hp.cell 1
  have p2 : w3.cell? ⟨w.heap.size, 2, none⟩ = some (.int .u64 v) := hp.cell 2
  have p3 : w3.cell? ⟨w.heap.size, 3, none⟩ = some (.slice P n cp) := hp.cell 3
  have q0 : w3.cell? ⟨w.heap.size + 1, 0, none⟩ = some (.int .u64 0) := hr.cell 0
  have qz0 : w3.frozen? ⟨w.heap.size + 1, 0, none⟩ = false := hr.frozen 0
  have q1 : w3.cell? ⟨w.heap.size + 1, 1, none⟩ = some (.int .u64 0) := hr.cell 1
  have qz1 : w3.frozen? ⟨w.heap.size + 1, 1, none⟩ = false := hr.frozen 1
  have q2 : w3.cell? ⟨w.heap.size + 1, 2, none⟩ = some (.slice none 0 0) := hr.cell 2
  have qz2 : w3.frozen? ⟨w.heap.size + 1, 2, none⟩ = false := hr.frozen 2
  have q3 : w3.cell? ⟨w.heap.size + 1, 3, none⟩ = some (.bool false) := hr.cell 3
  have qz3 : w3.frozen? ⟨w.heap.size + 1, 3, none⟩ = false := hr.frozen 3
  have pl := hp.lt
  have ql := hr.lt
  have hne : w.heap.size ≠ w.heap.size + 1 := by omega
  have HR3 := Lib.hid (HRD.out.keeps kk (fun _ _ h => h))
  have HP3 := Lib.hid (HPR.out.keeps kk (fun _ _ h => h))
  have HPp := Lib.hid hp
  clear K3 hp
  rcases hvr with ⟨x, l, hu, hll, rfl⟩ | ⟨hu, rfl⟩
  · have HSF := Lib.hid (uvGo_suffix _ _ _ _ _ _ hu)
    have hx64 := uvGo_lt 10 0 0 d x l rfl (by simp) hu
    have HU := Lib.hid hu
    obtain ⟨k, hk⟩ : ∃ k : Nat, k = d.length - l.length := ⟨_, rfl⟩
    rw [← hk]
    have HKL := Lib.hid (And.intro hk hll)
    clear hu hll hk
    by_cases hbig : (1000 : Int) < (x : Int)
    · go_wp2_with fail
      have hn12 := Whole.new w3 34 #[.int .u64 (x : Int), .int .u64 0, .slice none 0 0, .bool false]
      have hs0 : (fun w' => w'.cell? ⟨w3.heap.size, 0, none⟩ = some (.int .u64 (x : Int)) ∧ w'.cell? ⟨w3.heap.size, 1, none⟩ = some (.int .u64 0) ∧ w'.cell? ⟨w3.heap.size, 2, none⟩ = some (.slice none 0 0) ∧ w'.cell? ⟨w3.heap.size, 3, none⟩ = some (.bool false)) (w3.alloc (.cells #[.int .u64 (x : Int), .int .u64 0, .slice none 0 0, .bool false] 34)).drew := ⟨(hn12.keeps ((Keeps.refl (fun _ => False) _).drew) (fun h => h)).cell 0, (hn12.keeps ((Keeps.refl (fun _ => False) _).drew) (fun h => h)).cell 1, (hn12.keeps ((Keeps.refl (fun _ => False) _).drew) (fun h => h)).cell 2, (hn12.keeps ((Keeps.refl (fun _ => False) _).drew) (fun h => h)).cell 3⟩
      have hfa := ((((hn12.far (p := ⟨w.heap.size + 1, 0, none⟩) (by show w3.heap.size ≠ w.heap.size + 1; omega) (.int .u64 (x : Int))).far (p := ⟨w.heap.size + 1, 1, none⟩) (by show w3.heap.size ≠ w.heap.size + 1; omega) (.int .u64 0)).far (p := ⟨w.heap.size + 1, 2, none⟩) (by show w3.heap.size ≠ w.heap.size + 1; omega) (.slice none 0 0)).far (p := ⟨w.heap.size + 1, 3, none⟩) (by show w3.heap.size ≠ w.heap.size + 1; omega) (.bool false))
      have hs1 : (fun w' => w'.cell? ⟨w3.heap.size, 0, none⟩ = some (.int .u64 (x : Int)) ∧ w'.cell? ⟨w3.heap.size, 1, none⟩ = some (.int .u64 0) ∧ w'.cell? ⟨w3.heap.size, 2, none⟩ = some (.slice none 0 0) ∧ w'.cell? ⟨w3.heap.size, 3, none⟩ = some (.bool false)) (((((w3.alloc (.cells #[.int .u64 (x : Int), .int .u64 0, .slice none 0 0, .bool false] 34)).setCell ⟨w.heap.size + 1, 0, none⟩ (.int .u64 (x : Int))).setCell ⟨w.heap.size + 1, 1, none⟩ (.int .u64 0)).setCell ⟨w.heap.size + 1, 2, none⟩ (.slice none 0 0)).setCell ⟨w.heap.size + 1, 3, none⟩ (.bool false)).drew := ⟨(hfa.keeps ((Keeps.refl (fun _ => False) _).drew) (fun h => h)).cell 0, (hfa.keeps ((Keeps.refl (fun _ => False) _).drew) (fun h => h)).cell 1, (hfa.keeps ((Keeps.refl (fun _ => False) _).drew) (fun h => h)).cell 2, (hfa.keeps ((Keeps.refl (fun _ => False) _).drew) (fun h => h)).cell 3⟩
      have hnb := Whole.new ((((w3.setCell ⟨w.heap.size + 1, 0, none⟩ (.int .u64 (x : Int))).setCell ⟨w.heap.size + 1, 1, none⟩ (.int .u64 0)).setCell ⟨w.heap.size + 1, 2, none⟩ (.slice none 0 0)).setCell ⟨w.heap.size + 1, 3, none⟩ (.bool false)) 34 #[.int .u64 (x : Int), .int .u64 0, .slice none 0 0, .bool false]
      simp only [World.size_setCell] at hnb
      have hs2 : (fun w' => w'.cell? ⟨w3.heap.size, 0, none⟩ = some (.int .u64 (x : Int)) ∧ w'.cell? ⟨w3.heap.size, 1, none⟩ = some (.int .u64 0) ∧ w'.cell? ⟨w3.heap.size, 2, none⟩ = some (.slice none 0 0) ∧ w'.cell? ⟨w3.heap.size, 3, none⟩ = some (.bool false)) (((((w3.setCell ⟨w.heap.size + 1, 0, none⟩ (.int .u64 (x : Int))).setCell ⟨w.heap.size + 1, 1, none⟩ (.int .u64 0)).setCell ⟨w.heap.size + 1, 2, none⟩ (.slice none 0 0)).setCell ⟨w.heap.size + 1, 3, none⟩ (.bool false)).alloc (.cells #[.int .u64 (x : Int), .int .u64 0, .slice none 0 0, .bool false] 34)).drew := ⟨(hnb.keeps ((Keeps.refl (fun _ => False) _).drew) (fun h => h)).cell 0, (hnb.keeps ((Keeps.refl (fun _ => False) _).drew) (fun h => h)).cell 1, (hnb.keeps ((Keeps.refl (fun _ => False) _).drew) (fun h => h)).cell 2, (hnb.keeps ((Keeps.refl (fun _ => False) _).drew) (fun h => h)).cell 3⟩
      go_region_held3 (fun w' => w'.cell? ⟨w3.heap.size, 0, none⟩ = some (.int .u64 (x : Int)) ∧ w'.cell? ⟨w3.heap.size, 1, none⟩ = some (.int .u64 0) ∧ w'.cell? ⟨w3.heap.size, 2, none⟩ = some (.slice none 0 0) ∧ w'.cell? ⟨w3.heap.size, 3, none⟩ = some (.bool false)) (with_reducible first | exact hs0 | exact hs1 | exact hs2) (fail)
      all_goals (go_wp2_with fail)
      have r1 := fun o => (((((hr.put 0 (.int .u64 (x : Int))).put 1 (.int .u64 0)).put 2 (.slice none 0 0)).put 3 (.bool false)).alloc o).keeps ((Keeps.refl (fun _ => False) _).drew) (fun h => h)
      have hld := fun o => run_loadVar_row (P := Tryd.prog) _ (w.heap.size + 1) 34 34 _ (0, 0) _ (r1 o) Tryd.underlying34 rfl infoGot
      have kn := fun o => (((((kk.setCell (p := ⟨w.heap.size + 1, 0, none⟩) (.inr (by show w.heap.size ≤ w.heap.size + 1; omega)) (.int .u64 (x : Int))).setCell (p := ⟨w.heap.size + 1, 1, none⟩) (.inr (by show w.heap.size ≤ w.heap.size + 1; omega)) (.int .u64 0)).setCell (p := ⟨w.heap.size + 1, 2, none⟩) (.inr (by show w.heap.size ≤ w.heap.size + 1; omega)) (.slice none 0 0)).setCell (p := ⟨w.heap.size + 1, 3, none⟩) (.inr (by show w.heap.size ≤ w.heap.size + 1; omega)) (.bool false)).alloc o).drew
      exact bodyPost_ret (results_cell3 rfl _ ⟨w.heap.size + 1, 0, none⟩ _ _ rfl (hld _)) rfl ⟨.big x l HU.out (by omega) _ rfl, kn _⟩
    · have hx : x ≤ 1000 := by omega
      have hx1 : IntKind.i64.wrap (x : Int) = (x : Int) := by rw [IntKind.wrap_i64]; omega
      by_cases h17 : op = 17
      · have e17 : (op == 17) = true := by rw [h17]; rfl
        go_wp2_with fail
        have r1 := fun o => (((((hr.put 0 (.int .u64 (x : Int))).put 1 (.int .u64 0)).put 2 (.slice none 0 0)).put 3 (.bool false)).alloc o)
        have hld := fun o => run_loadVar_row (P := Tryd.prog) _ (w.heap.size + 1) 34 34 _ (0, 0) _ (r1 o) Tryd.underlying34 rfl infoGot
        have kn := fun o => (((((kk.setCell (p := ⟨w.heap.size + 1, 0, none⟩) (.inr (by show w.heap.size ≤ w.heap.size + 1; omega)) (.int .u64 (x : Int))).setCell (p := ⟨w.heap.size + 1, 1, none⟩) (.inr (by show w.heap.size ≤ w.heap.size + 1; omega)) (.int .u64 0)).setCell (p := ⟨w.heap.size + 1, 2, none⟩) (.inr (by show w.heap.size ≤ w.heap.size + 1; omega)) (.slice none 0 0)).setCell (p := ⟨w.heap.size + 1, 3, none⟩) (.inr (by show w.heap.size ≤ w.heap.size + 1; omega)) (.bool false)).alloc o)
        exact bodyPost_ret (results_cell3 rfl _ ⟨w.heap.size + 1, 0, none⟩ _ _ rfl (hld _)) rfl ⟨.len x l HU.out hx h17 (by rw [← HKL.out.1]; rfl), kn _⟩
      have e17 : (op == 17) = false := by simpa using h17
      have hdl := HDL.out
      have hmd := HM.out
      have hkl := HKL.out
      have hadd : IntKind.i64.wrap ((k : Int) + (x : Int)) = (k : Int) + (x : Int) := by rw [IntKind.wrap_i64]; omega
      by_cases hsh : (m : Int) < (k : Int) + (x : Int)
      · clear hdl hmd hkl
        go_wp2_with fail
        have r1 := fun o => (((((hr.put 0 (.int .u64 0)).put 1 (.int .u64 0)).put 2 (.slice none 0 0)).put 3 (.bool true)).alloc o)
        have hld := fun o => run_loadVar_row (P := Tryd.prog) _ (w.heap.size + 1) 34 34 _ (0, 0) _ (r1 o) Tryd.underlying34 rfl infoGot
        have kn := fun o => (((((kk.setCell (p := ⟨w.heap.size + 1, 0, none⟩) (.inr (by show w.heap.size ≤ w.heap.size + 1; omega)) (.int .u64 0)).setCell (p := ⟨w.heap.size + 1, 1, none⟩) (.inr (by show w.heap.size ≤ w.heap.size + 1; omega)) (.int .u64 0)).setCell (p := ⟨w.heap.size + 1, 2, none⟩) (.inr (by show w.heap.size ≤ w.heap.size + 1; omega)) (.slice none 0 0)).setCell (p := ⟨w.heap.size + 1, 3, none⟩) (.inr (by show w.heap.size ≤ w.heap.size + 1; omega)) (.bool true)).alloc o)
        exact bodyPost_ret (results_cell3 rfl _ ⟨w.heap.size + 1, 0, none⟩ _ _ rfl (hld _)) rfl ⟨.short x l HU.out hx h17 (by have := HM.out; have := HKL.out; omega) rfl, kn _⟩
      obtain ⟨ad, hA, had, _⟩ := HR3.out.2 (by
        rcases Nat.eq_zero_or_pos d.length with h | h
        · have hd : d = [] := List.eq_nil_of_length_eq_zero h
          have hu := HU.out
          rw [hd] at hu
          cases hu
        · exact h)
      subst hA
      have hlx : x ≤ l.length := by omega
      have hdk : d.drop k = l := by rw [hkl.1]; exact HSF.out.1.symm
      have i0 : (0 : Int) ≤ (k : Int) := by omega
      have i1 : (k : Int) ≤ (k : Int) + (x : Int) := by omega
      have i2 : (k : Int) + (x : Int) ≤ (c : Int) := by omega
      obtain ⟨i0', hi0, hz0, hz1, hz2⟩ := info_parts infoU8
      have HLX := Lib.hid (And.intro hlx (And.intro hx hdk))
      have HKC := Lib.hid (show x ≤ m - k ∧ k ≤ m by omega)
      have HSZ3 := Lib.hid (show w.heap.size ≤ w3.heap.size by omega)
      have hA12 := (Keeps.refl (fun _ => False) w3).alloc (.cells #[.int .u64 (x : Int), .int .u64 0, .slice none 0 0, .bool false] 34)
      have n1 : 0 + x ≤ maxLen := by simp only [maxLen]; omega
      have n2 : (0 + x) * 1 ≤ 140737488355328 := by omega
      have n3 : w.heap.size ≤ (w3.alloc (.cells #[.int .u64 (x : Int), .int .u64 0, .slice none 0 0, .bool false] 34)).heap.size := Nat.le_trans HSZ3.out hA12.size
      have hRX : ∀ X, ((k = c ∧ X = some ad) ∨ (¬ k = c ∧ X = some (ad.add k))) → Rd (w3.alloc (.cells #[.int .u64 (x : Int), .int .u64 0, .slice none 0 0, .bool false] 34)) 1 X x (Lib.byteCells (l.take x)) := by
        rintro X (⟨hkc, rfl⟩ | ⟨hkc, rfl⟩)
        · have hx0 : x = 0 := by have := HKC.out; omega
          subst hx0
          exact ⟨by simp [Lib.byteCells], fun h => absurd h (by omega)⟩
        · have := rd_take (rd_drop HR3.out (k := k) (by have := HKC.out; omega)) (k := x) (by have := HKC.out; omega)
          rw [hdk] at this
          exact this.keeps hA12 (fun _ _ h => h)
      have hp12 := (HPp.out.alloc (.cells #[.int .u64 (x : Int), .int .u64 0, .slice none 0 0, .bool false] 34))
      have hr12 := (hr.alloc (.cells #[.int .u64 (x : Int), .int .u64 0, .slice none 0 0, .bool false] 34))
      have HRX := Lib.hid hRX
      have HP12 := Lib.hid hp12
      have HR12 := Lib.hid hr12
      have HK12 := Lib.hid (kk.alloc (.cells #[.int .u64 (x : Int), .int .u64 0, .slice none 0 0, .bool false] 34))
      have HP4 := Lib.hid (HP3.out.keeps hA12 (fun _ _ h => h))
      clear hRX hp12 hr12 hA12 hdl hmd hkl hlx hdk
      by_cases hkc : k = c
      · have hxx := HRX.out _ (.inl ⟨hkc, rfl⟩)
        have HX0 := Lib.hid (show x = 0 by have := HKC.out; omega)
        subst hkc
        by_cases h22' : op = 22
        · have e22 : (op == 22) = true := by rw [h22']; rfl
          have hns := HSN.out
          have m1 : 0 + n ≤ maxLen := by simp only [maxLen]; omega
          have m2 : (0 + n) * 1 ≤ 140737488355328 := by omega
          have m3 : n + x ≤ maxLen := by simp only [maxLen]; omega
          have m4 : (n + x) * 1 ≤ 140737488355328 := by omega
          clear hns
          go_wp2_with (first
            | (at_builtin
               refine wpList_append_rd _ rfl (.const (.slice none 0 0)) (.tmp 105) _ rfl w.heap.size 5 i0' _ 1 1 Tryd.underlying22 hi0 hz0 hz1 hz2 rfl Nat.one_pos none 0 0 [] rfl (World.ownsRow_nil _ _ _ _) (some ad) x (k - k) _ (by simp [Act.eval, HX0.out]) hxx (byteCells_one _) n1 n2 n3 ?_
               intro A6 c6 w6 o6 hg6 hat6
               rw [Nat.zero_add, List.nil_append] at o6
               have hp := HP12.out.grown hg6 (by simp [ob])
               have hr := HR12.out.grown hg6 (by simp [ob])
               have p0 : w6.cell? ⟨w.heap.size, 0, none⟩ = some (.int .i64 op) := hp.cell 0
               have p1 : w6.cell? ⟨w.heap.size, 1, none⟩ = some (.int .u64 (u : Int)) := hp.cell 1
               have p2 : w6.cell? ⟨w.heap.size, 2, none⟩ = some (.int .u64 v) := hp.cell 2
               have p3 : w6.cell? ⟨w.heap.size, 3, none⟩ = some (.slice P n cp) := hp.cell 3
               have q0 : w6.cell? ⟨w.heap.size + 1, 0, none⟩ = some (.int .u64 0) := hr.cell 0
               have qz0 : w6.frozen? ⟨w.heap.size + 1, 0, none⟩ = false := hr.frozen 0
               have q1 : w6.cell? ⟨w.heap.size + 1, 1, none⟩ = some (.int .u64 0) := hr.cell 1
               have qz1 : w6.frozen? ⟨w.heap.size + 1, 1, none⟩ = false := hr.frozen 1
               have q2 : w6.cell? ⟨w.heap.size + 1, 2, none⟩ = some (.slice none 0 0) := hr.cell 2
               have qz2 : w6.frozen? ⟨w.heap.size + 1, 2, none⟩ = false := hr.frozen 2
               have q3 : w6.cell? ⟨w.heap.size + 1, 3, none⟩ = some (.bool false) := hr.cell 3
               have qz3 : w6.frozen? ⟨w.heap.size + 1, 3, none⟩ = false := hr.frozen 3
               have pl := hp.lt
               have ql := hr.lt
               have hne : w.heap.size ≠ w.heap.size + 1 := by omega)
            | (at_builtin
               refine wpList_append_rd _ rfl (.const (.slice none 0 0)) (.tmp 111) _ rfl w.heap.size 5 i0' _ 1 1 Tryd.underlying22 hi0 hz0 hz1 hz2 rfl Nat.one_pos none 0 0 [] rfl (World.ownsRow_nil _ _ _ _) P n cp _ (by simp [Act.eval]) (HP4.out.keeps ((Keeps.refl (fun _ => False) _).grown hg6 (fun i hi => by cases hi)) (fun _ _ h => h)) (byteCells_one _) m1 m2 (Nat.le_trans n3 hg6.size) ?_
               intro A7 c7 w7 o7 hg7 hat7
               rw [Nat.zero_add, List.nil_append] at o7
               have hp7 := hp.grown hg7 (by simp [ob])
               have hr7 := hr.grown hg7 (by simp [ob])
               have hrd6 := (Rd.own o6).keeps ((Keeps.refl (fun _ => False) _).grown hg7 (fun i hi => by cases hi)) (fun _ _ h => h))
            | (at_builtin
               refine wpList_append_rd _ rfl (.tmp 112) (.tmp 113) _ rfl w.heap.size 5 i0' _ 1 1 Tryd.underlying22 hi0 hz0 hz1 hz2 rfl Nat.one_pos A7 c7 n _ (by simp [Act.eval]) o7 A6 x c6 _ (by simp [Act.eval]) hrd6 (byteCells_one _) m3 m4 (Nat.le_trans (Nat.le_trans n3 hg6.size) hg7.size) ?_
               intro A8 c8 w8 o8 hg8 hat8
               rw [← Lib.byteCells_append] at o8
               have h7b : ∀ i, ob A7 = some i → w.heap.size + 2 ≤ i := fun i hi => by
                 rcases hat7 with e | e
                 · rw [hi] at e; cases e
                 · rw [hi] at e; injection e with e; have := hg6.size; rw [World.size_alloc] at this; omega
               have hp := hp7.grown hg8 (fun h => by have := h7b _ h.symm; omega)
               have hr := hr7.grown hg8 (fun h => by have := h7b _ h.symm; omega)
               have p0 : w8.cell? ⟨w.heap.size, 0, none⟩ = some (.int .i64 op) := hp.cell 0
               have p1 : w8.cell? ⟨w.heap.size, 1, none⟩ = some (.int .u64 (u : Int)) := hp.cell 1
               have p2 : w8.cell? ⟨w.heap.size, 2, none⟩ = some (.int .u64 v) := hp.cell 2
               have p3 : w8.cell? ⟨w.heap.size, 3, none⟩ = some (.slice P n cp) := hp.cell 3
               have q0 : w8.cell? ⟨w.heap.size + 1, 0, none⟩ = some (.int .u64 0) := hr.cell 0
               have qz0 : w8.frozen? ⟨w.heap.size + 1, 0, none⟩ = false := hr.frozen 0
               have q1 : w8.cell? ⟨w.heap.size + 1, 1, none⟩ = some (.int .u64 0) := hr.cell 1
               have qz1 : w8.frozen? ⟨w.heap.size + 1, 1, none⟩ = false := hr.frozen 1
               have q2 : w8.cell? ⟨w.heap.size + 1, 2, none⟩ = some (.slice none 0 0) := hr.cell 2
               have qz2 : w8.frozen? ⟨w.heap.size + 1, 2, none⟩ = false := hr.frozen 2
               have q3 : w8.cell? ⟨w.heap.size + 1, 3, none⟩ = some (.bool false) := hr.cell 3
               have qz3 : w8.frozen? ⟨w.heap.size + 1, 3, none⟩ = false := hr.frozen 3
               have pl := hp.lt
               have ql := hr.lt
               have hne : w.heap.size ≠ w.heap.size + 1 := by omega))
          have k6 := HK12.out.grown hg6 (fun i hi => by cases hi)
          have k7 := k6.grown hg7 (fun i hi => by cases hi)
          have k8 := k7.grown hg8 (fun i hi => .inr (by have := h7b i hi; omega))
          have h8z : ∀ i, ob A8 = some i → w.heap.size ≤ i := fun i hi => by
            rcases hat8 with e | e
            · have := h7b i (e ▸ hi); omega
            · rw [hi] at e; injection e with e; have := hg7.size; have := hg6.size; rw [World.size_alloc] at this; omega
          have h8b : ∀ i, ob A8 = some i → ¬ i = w.heap.size + 1 := fun i hi h => by
            rcases hat8 with e | e
            · have := h7b i (e ▸ hi); omega
            · rw [hi] at e; injection e with e; have := hg7.size; have := hg6.size; rw [World.size_alloc] at this; omega
          have r1 := ((((hr.put 0 (.int .u64 0)).put 1 (.int .u64 0)).put 2 (.slice A8 (n + x) c8)).put 3 (.bool false))
          have hld := run_loadVar_row (P := Tryd.prog) _ (w.heap.size + 1) 34 34 _ (0, 0) _ r1 Tryd.underlying34 rfl infoGot
          have kn := ((((k8.setCell (p := ⟨w.heap.size + 1, 0, none⟩) (.inr (by show w.heap.size ≤ w.heap.size + 1; omega)) (.int .u64 0)).setCell (p := ⟨w.heap.size + 1, 1, none⟩) (.inr (by show w.heap.size ≤ w.heap.size + 1; omega)) (.int .u64 0)).setCell (p := ⟨w.heap.size + 1, 2, none⟩) (.inr (by show w.heap.size ≤ w.heap.size + 1; omega)) (.slice A8 (n + x) c8)).setCell (p := ⟨w.heap.size + 1, 3, none⟩) (.inr (by show w.heap.size ≤ w.heap.size + 1; omega)) (.bool false))
          have hfin := (Rd.own o8).keeps ((((((Keeps.refl (fun i => i = w.heap.size + 1) w8).setCell (p := ⟨w.heap.size + 1, 0, none⟩) (.inl rfl) (.int .u64 0)).setCell (p := ⟨w.heap.size + 1, 1, none⟩) (.inl rfl) (.int .u64 0)).setCell (p := ⟨w.heap.size + 1, 2, none⟩) (.inl rfl) (.slice A8 (n + x) c8)).setCell (p := ⟨w.heap.size + 1, 3, none⟩) (.inl rfl) (.bool false))) h8b
          have hln : (s0 ++ l.take x).length = n + x := by rw [List.length_append, List.length_take, Nat.min_eq_left HLX.out.1, ← HSN.out.1]
          exact bodyPost_ret (results_cell3 rfl _ ⟨w.heap.size + 1, 0, none⟩ _ _ rfl hld) rfl ⟨.good x l HU.out hx h17 HLX.out.1 A8 c8 (s0 ++ l.take x) (by rw [if_pos h22']) (by rw [hln, ← HKL.out.1, Int.natCast_add]; rfl) (by rw [hln]; exact hfin) h8z, kn⟩
        · have e22 : (op == 22) = false := by simpa using h22'
          go_wp2_with (
            at_builtin
            refine wpList_append_rd _ rfl (.const (.slice none 0 0)) (.tmp 105) _ rfl w.heap.size 5 i0' _ 1 1 Tryd.underlying22 hi0 hz0 hz1 hz2 rfl Nat.one_pos none 0 0 [] rfl (World.ownsRow_nil _ _ _ _) (some ad) x (k - k) _ (by simp [Act.eval, HX0.out]) hxx (byteCells_one _) n1 n2 n3 ?_
            intro A6 c6 w6 o6 hg6 hat6
            rw [Nat.zero_add, List.nil_append] at o6
            have hp := HP12.out.grown hg6 (by simp [ob])
            have hr := HR12.out.grown hg6 (by simp [ob])
            have p0 : w6.cell? ⟨w.heap.size, 0, none⟩ = some (.int .i64 op) := hp.cell 0
            have p1 : w6.cell? ⟨w.heap.size, 1, none⟩ = some (.int .u64 (u : Int)) := hp.cell 1
            have p2 : w6.cell? ⟨w.heap.size, 2, none⟩ = some (.int .u64 v) := hp.cell 2
            have p3 : w6.cell? ⟨w.heap.size, 3, none⟩ = some (.slice P n cp) := hp.cell 3
            have q0 : w6.cell? ⟨w.heap.size + 1, 0, none⟩ = some (.int .u64 0) := hr.cell 0
            have qz0 : w6.frozen? ⟨w.heap.size + 1, 0, none⟩ = false := hr.frozen 0
            have q1 : w6.cell? ⟨w.heap.size + 1, 1, none⟩ = some (.int .u64 0) := hr.cell 1
            have qz1 : w6.frozen? ⟨w.heap.size + 1, 1, none⟩ = false := hr.frozen 1
            have q2 : w6.cell? ⟨w.heap.size + 1, 2, none⟩ = some (.slice none 0 0) := hr.cell 2
            have qz2 : w6.frozen? ⟨w.heap.size + 1, 2, none⟩ = false := hr.frozen 2
            have q3 : w6.cell? ⟨w.heap.size + 1, 3, none⟩ = some (.bool false) := hr.cell 3
            have qz3 : w6.frozen? ⟨w.heap.size + 1, 3, none⟩ = false := hr.frozen 3
            have pl := hp.lt
            have ql := hr.lt
            have hne : w.heap.size ≠ w.heap.size + 1 := by omega)
          have k6 := HK12.out.grown hg6 (fun i hi => by cases hi)
          have h6z : ∀ i, ob A6 = some i → w.heap.size ≤ i := fun i hi => by
            rcases hat6 with e | e
            · rw [hi] at e; cases e
            · rw [hi] at e; injection e with e; rw [World.size_alloc] at e; omega
          have h6b : ∀ i, ob A6 = some i → ¬ i = w.heap.size + 1 := fun i hi h => by
            rcases hat6 with e | e
            · rw [hi] at e; cases e
            · rw [hi] at e; injection e with e; rw [World.size_alloc] at e; omega
          have r1 := ((((hr.put 0 (.int .u64 0)).put 1 (.int .u64 0)).put 2 (.slice A6 x c6)).put 3 (.bool false))
          have hld := run_loadVar_row (P := Tryd.prog) _ (w.heap.size + 1) 34 34 _ (0, 0) _ r1 Tryd.underlying34 rfl infoGot
          have kn := ((((k6.setCell (p := ⟨w.heap.size + 1, 0, none⟩) (.inr (by show w.heap.size ≤ w.heap.size + 1; omega)) (.int .u64 0)).setCell (p := ⟨w.heap.size + 1, 1, none⟩) (.inr (by show w.heap.size ≤ w.heap.size + 1; omega)) (.int .u64 0)).setCell (p := ⟨w.heap.size + 1, 2, none⟩) (.inr (by show w.heap.size ≤ w.heap.size + 1; omega)) (.slice A6 x c6)).setCell (p := ⟨w.heap.size + 1, 3, none⟩) (.inr (by show w.heap.size ≤ w.heap.size + 1; omega)) (.bool false))
          have hfin := (Rd.own o6).keeps ((((((Keeps.refl (fun i => i = w.heap.size + 1) w6).setCell (p := ⟨w.heap.size + 1, 0, none⟩) (.inl rfl) (.int .u64 0)).setCell (p := ⟨w.heap.size + 1, 1, none⟩) (.inl rfl) (.int .u64 0)).setCell (p := ⟨w.heap.size + 1, 2, none⟩) (.inl rfl) (.slice A6 x c6)).setCell (p := ⟨w.heap.size + 1, 3, none⟩) (.inl rfl) (.bool false))) h6b
          have hln : (l.take x).length = x := by rw [List.length_take, Nat.min_eq_left HLX.out.1]
          exact bodyPost_ret (results_cell3 rfl _ ⟨w.heap.size + 1, 0, none⟩ _ _ rfl hld) rfl ⟨.good x l HU.out hx h17 HLX.out.1 A6 c6 (l.take x) (by rw [if_neg h22']; rfl) (by rw [hln, ← HKL.out.1, Int.natCast_add]; rfl) (by rw [hln]; exact hfin) h6z, kn⟩
      · have hxx := HRX.out _ (.inr ⟨hkc, rfl⟩)
        by_cases h22' : op = 22
        · have e22 : (op == 22) = true := by rw [h22']; rfl
          have hns := HSN.out
          have m1 : 0 + n ≤ maxLen := by simp only [maxLen]; omega
          have m2 : (0 + n) * 1 ≤ 140737488355328 := by omega
          have m3 : n + x ≤ maxLen := by simp only [maxLen]; omega
          have m4 : (n + x) * 1 ≤ 140737488355328 := by omega
          clear hns
          go_wp2_with (first
            | (at_builtin
               refine wpList_append_rd _ rfl (.const (.slice none 0 0)) (.tmp 105) _ rfl w.heap.size 5 i0' _ 1 1 Tryd.underlying22 hi0 hz0 hz1 hz2 rfl Nat.one_pos none 0 0 [] rfl (World.ownsRow_nil _ _ _ _) (some (ad.add k)) x (c - k) _ (by simp [Act.eval]) hxx (byteCells_one _) n1 n2 n3 ?_
               intro A6 c6 w6 o6 hg6 hat6
               rw [Nat.zero_add, List.nil_append] at o6
               have hp := HP12.out.grown hg6 (by simp [ob])
               have hr := HR12.out.grown hg6 (by simp [ob])
               have p0 : w6.cell? ⟨w.heap.size, 0, none⟩ = some (.int .i64 op) := hp.cell 0
               have p1 : w6.cell? ⟨w.heap.size, 1, none⟩ = some (.int .u64 (u : Int)) := hp.cell 1
               have p2 : w6.cell? ⟨w.heap.size, 2, none⟩ = some (.int .u64 v) := hp.cell 2
               have p3 : w6.cell? ⟨w.heap.size, 3, none⟩ = some (.slice P n cp) := hp.cell 3
               have q0 : w6.cell? ⟨w.heap.size + 1, 0, none⟩ = some (.int .u64 0) := hr.cell 0
               have qz0 : w6.frozen? ⟨w.heap.size + 1, 0, none⟩ = false := hr.frozen 0
               have q1 : w6.cell? ⟨w.heap.size + 1, 1, none⟩ = some (.int .u64 0) := hr.cell 1
               have qz1 : w6.frozen? ⟨w.heap.size + 1, 1, none⟩ = false := hr.frozen 1
               have q2 : w6.cell? ⟨w.heap.size + 1, 2, none⟩ = some (.slice none 0 0) := hr.cell 2
               have qz2 : w6.frozen? ⟨w.heap.size + 1, 2, none⟩ = false := hr.frozen 2
               have q3 : w6.cell? ⟨w.heap.size + 1, 3, none⟩ = some (.bool false) := hr.cell 3
               have qz3 : w6.frozen? ⟨w.heap.size + 1, 3, none⟩ = false := hr.frozen 3
               have pl := hp.lt
               have ql := hr.lt
               have hne : w.heap.size ≠ w.heap.size + 1 := by omega)
            | (at_builtin
               refine wpList_append_rd _ rfl (.const (.slice none 0 0)) (.tmp 111) _ rfl w.heap.size 5 i0' _ 1 1 Tryd.underlying22 hi0 hz0 hz1 hz2 rfl Nat.one_pos none 0 0 [] rfl (World.ownsRow_nil _ _ _ _) P n cp _ (by simp [Act.eval]) (HP4.out.keeps ((Keeps.refl (fun _ => False) _).grown hg6 (fun i hi => by cases hi)) (fun _ _ h => h)) (byteCells_one _) m1 m2 (Nat.le_trans n3 hg6.size) ?_
               intro A7 c7 w7 o7 hg7 hat7
               rw [Nat.zero_add, List.nil_append] at o7
               have hp7 := hp.grown hg7 (by simp [ob])
               have hr7 := hr.grown hg7 (by simp [ob])
               have hrd6 := (Rd.own o6).keeps ((Keeps.refl (fun _ => False) _).grown hg7 (fun i hi => by cases hi)) (fun _ _ h => h))
            | (at_builtin
               refine wpList_append_rd _ rfl (.tmp 112) (.tmp 113) _ rfl w.heap.size 5 i0' _ 1 1 Tryd.underlying22 hi0 hz0 hz1 hz2 rfl Nat.one_pos A7 c7 n _ (by simp [Act.eval]) o7 A6 x c6 _ (by simp [Act.eval]) hrd6 (byteCells_one _) m3 m4 (Nat.le_trans (Nat.le_trans n3 hg6.size) hg7.size) ?_
               intro A8 c8 w8 o8 hg8 hat8
               rw [← Lib.byteCells_append] at o8
               have h7b : ∀ i, ob A7 = some i → w.heap.size + 2 ≤ i := fun i hi => by
                 rcases hat7 with e | e
                 · rw [hi] at e; cases e
                 · rw [hi] at e; injection e with e; have := hg6.size; rw [World.size_alloc] at this; omega
               have hp := hp7.grown hg8 (fun h => by have := h7b _ h.symm; omega)
               have hr := hr7.grown hg8 (fun h => by have := h7b _ h.symm; omega)
               have p0 : w8.cell? ⟨w.heap.size, 0, none⟩ = some (.int .i64 op) := hp.cell 0
               have p1 : w8.cell? ⟨w.heap.size, 1, none⟩ = some (.int .u64 (u : Int)) := hp.cell 1
               have p2 : w8.cell? ⟨w.heap.size, 2, none⟩ = some (.int .u64 v) := hp.cell 2
               have p3 : w8.cell? ⟨w.heap.size, 3, none⟩ = some (.slice P n cp) := hp.cell 3
               have q0 : w8.cell? ⟨w.heap.size + 1, 0, none⟩ = some (.int .u64 0) := hr.cell 0
               have qz0 : w8.frozen? ⟨w.heap.size + 1, 0, none⟩ = false := hr.frozen 0
               have q1 : w8.cell? ⟨w.heap.size + 1, 1, none⟩ = some (.int .u64 0) := hr.cell 1
               have qz1 : w8.frozen? ⟨w.heap.size + 1, 1, none⟩ = false := hr.frozen 1
               have q2 : w8.cell? ⟨w.heap.size + 1, 2, none⟩ = some (.slice none 0 0) := hr.cell 2
               have qz2 : w8.frozen? ⟨w.heap.size + 1, 2, none⟩ = false := hr.frozen 2
               have q3 : w8.cell? ⟨w.heap.size + 1, 3, none⟩ = some (.bool false) := hr.cell 3
               have qz3 : w8.frozen? ⟨w.heap.size + 1, 3, none⟩ = false := hr.frozen 3
               have pl := hp.lt
               have ql := hr.lt
               have hne : w.heap.size ≠ w.heap.size + 1 := by omega))
          have k6 := HK12.out.grown hg6 (fun i hi => by cases hi)
          have k7 := k6.grown hg7 (fun i hi => by cases hi)
          have k8 := k7.grown hg8 (fun i hi => .inr (by have := h7b i hi; omega))
          have h8z : ∀ i, ob A8 = some i → w.heap.size ≤ i := fun i hi => by
            rcases hat8 with e | e
            · have := h7b i (e ▸ hi); omega
            · rw [hi] at e; injection e with e; have := hg7.size; have := hg6.size; rw [World.size_alloc] at this; omega
          have h8b : ∀ i, ob A8 = some i → ¬ i = w.heap.size + 1 := fun i hi h => by
            rcases hat8 with e | e
            · have := h7b i (e ▸ hi); omega
            · rw [hi] at e; injection e with e; have := hg7.size; have := hg6.size; rw [World.size_alloc] at this; omega
          have r1 := ((((hr.put 0 (.int .u64 0)).put 1 (.int .u64 0)).put 2 (.slice A8 (n + x) c8)).put 3 (.bool false))
          have hld := run_loadVar_row (P := Tryd.prog) _ (w.heap.size + 1) 34 34 _ (0, 0) _ r1 Tryd.underlying34 rfl infoGot
          have kn := ((((k8.setCell (p := ⟨w.heap.size + 1, 0, none⟩) (.inr (by show w.heap.size ≤ w.heap.size + 1; omega)) (.int .u64 0)).setCell (p := ⟨w.heap.size + 1, 1, none⟩) (.inr (by show w.heap.size ≤ w.heap.size + 1; omega)) (.int .u64 0)).setCell (p := ⟨w.heap.size + 1, 2, none⟩) (.inr (by show w.heap.size ≤ w.heap.size + 1; omega)) (.slice A8 (n + x) c8)).setCell (p := ⟨w.heap.size + 1, 3, none⟩) (.inr (by show w.heap.size ≤ w.heap.size + 1; omega)) (.bool false))
          have hfin := (Rd.own o8).keeps ((((((Keeps.refl (fun i => i = w.heap.size + 1) w8).setCell (p := ⟨w.heap.size + 1, 0, none⟩) (.inl rfl) (.int .u64 0)).setCell (p := ⟨w.heap.size + 1, 1, none⟩) (.inl rfl) (.int .u64 0)).setCell (p := ⟨w.heap.size + 1, 2, none⟩) (.inl rfl) (.slice A8 (n + x) c8)).setCell (p := ⟨w.heap.size + 1, 3, none⟩) (.inl rfl) (.bool false))) h8b
          have hln : (s0 ++ l.take x).length = n + x := by rw [List.length_append, List.length_take, Nat.min_eq_left HLX.out.1, ← HSN.out.1]
          exact bodyPost_ret (results_cell3 rfl _ ⟨w.heap.size + 1, 0, none⟩ _ _ rfl hld) rfl ⟨.good x l HU.out hx h17 HLX.out.1 A8 c8 (s0 ++ l.take x) (by rw [if_pos h22']) (by rw [hln, ← HKL.out.1, Int.natCast_add]; rfl) (by rw [hln]; exact hfin) h8z, kn⟩
        · have e22 : (op == 22) = false := by simpa using h22'
          go_wp2_with (
            at_builtin
            refine wpList_append_rd _ rfl (.const (.slice none 0 0)) (.tmp 105) _ rfl w.heap.size 5 i0' _ 1 1 Tryd.underlying22 hi0 hz0 hz1 hz2 rfl Nat.one_pos none 0 0 [] rfl (World.ownsRow_nil _ _ _ _) (some (ad.add k)) x (c - k) _ (by simp [Act.eval]) hxx (byteCells_one _) n1 n2 n3 ?_
            intro A6 c6 w6 o6 hg6 hat6
            rw [Nat.zero_add, List.nil_append] at o6
            have hp := HP12.out.grown hg6 (by simp [ob])
            have hr := HR12.out.grown hg6 (by simp [ob])
            have p0 : w6.cell? ⟨w.heap.size, 0, none⟩ = some (.int .i64 op) := hp.cell 0
            have p1 : w6.cell? ⟨w.heap.size, 1, none⟩ = some (.int .u64 (u : Int)) := hp.cell 1
            have p2 : w6.cell? ⟨w.heap.size, 2, none⟩ = some (.int .u64 v) := hp.cell 2
            have p3 : w6.cell? ⟨w.heap.size, 3, none⟩ = some (.slice P n cp) := hp.cell 3
            have q0 : w6.cell? ⟨w.heap.size + 1, 0, none⟩ = some (.int .u64 0) := hr.cell 0
            have qz0 : w6.frozen? ⟨w.heap.size + 1, 0, none⟩ = false := hr.frozen 0
            have q1 : w6.cell? ⟨w.heap.size + 1, 1, none⟩ = some (.int .u64 0) := hr.cell 1
            have qz1 : w6.frozen? ⟨w.heap.size + 1, 1, none⟩ = false := hr.frozen 1
            have q2 : w6.cell? ⟨w.heap.size + 1, 2, none⟩ = some (.slice none 0 0) := hr.cell 2
            have qz2 : w6.frozen? ⟨w.heap.size + 1, 2, none⟩ = false := hr.frozen 2
            have q3 : w6.cell? ⟨w.heap.size + 1, 3, none⟩ = some (.bool false) := hr.cell 3
            have qz3 : w6.frozen? ⟨w.heap.size + 1, 3, none⟩ = false := hr.frozen 3
            have pl := hp.lt
            have ql := hr.lt
            have hne : w.heap.size ≠ w.heap.size + 1 := by omega)
          have k6 := HK12.out.grown hg6 (fun i hi => by cases hi)
          have h6z : ∀ i, ob A6 = some i → w.heap.size ≤ i := fun i hi => by
            rcases hat6 with e | e
            · rw [hi] at e; cases e
            · rw [hi] at e; injection e with e; rw [World.size_alloc] at e; omega
          have h6b : ∀ i, ob A6 = some i → ¬ i = w.heap.size + 1 := fun i hi h => by
            rcases hat6 with e | e
            · rw [hi] at e; cases e
            · rw [hi] at e; injection e with e; rw [World.size_alloc] at e; omega
          have r1 := ((((hr.put 0 (.int .u64 0)).put 1 (.int .u64 0)).put 2 (.slice A6 x c6)).put 3 (.bool false))
          have hld := run_loadVar_row (P := Tryd.prog) _ (w.heap.size + 1) 34 34 _ (0, 0) _ r1 Tryd.underlying34 rfl infoGot
          have kn := ((((k6.setCell (p := ⟨w.heap.size + 1, 0, none⟩) (.inr (by show w.heap.size ≤ w.heap.size + 1; omega)) (.int .u64 0)).setCell (p := ⟨w.heap.size + 1, 1, none⟩) (.inr (by show w.heap.size ≤ w.heap.size + 1; omega)) (.int .u64 0)).setCell (p := ⟨w.heap.size + 1, 2, none⟩) (.inr (by show w.heap.size ≤ w.heap.size + 1; omega)) (.slice A6 x c6)).setCell (p := ⟨w.heap.size + 1, 3, none⟩) (.inr (by show w.heap.size ≤ w.heap.size + 1; omega)) (.bool false))
          have hfin := (Rd.own o6).keeps ((((((Keeps.refl (fun i => i = w.heap.size + 1) w6).setCell (p := ⟨w.heap.size + 1, 0, none⟩) (.inl rfl) (.int .u64 0)).setCell (p := ⟨w.heap.size + 1, 1, none⟩) (.inl rfl) (.int .u64 0)).setCell (p := ⟨w.heap.size + 1, 2, none⟩) (.inl rfl) (.slice A6 x c6)).setCell (p := ⟨w.heap.size + 1, 3, none⟩) (.inl rfl) (.bool false))) h6b
          have hln : (l.take x).length = x := by rw [List.length_take, Nat.min_eq_left HLX.out.1]
          exact bodyPost_ret (results_cell3 rfl _ ⟨w.heap.size + 1, 0, none⟩ _ _ rfl hld) rfl ⟨.good x l HU.out hx h17 HLX.out.1 A6 c6 (l.take x) (by rw [if_neg h22']; rfl) (by rw [hln, ← HKL.out.1, Int.natCast_add]; rfl) (by rw [hln]; exact hfin) h6z, kn⟩
  · have HU := Lib.hid hu
    clear hu
    go_wp2_with fail
    have hn12 := Whole.new w3 34 #[.int .u64 0, .int .u64 0, .slice none 0 0, .bool true]
    have hs0 : (fun w' => w'.cell? ⟨w3.heap.size, 0, none⟩ = some (.int .u64 0) ∧ w'.cell? ⟨w3.heap.size, 1, none⟩ = some (.int .u64 0) ∧ w'.cell? ⟨w3.heap.size, 2, none⟩ = some (.slice none 0 0) ∧ w'.cell? ⟨w3.heap.size, 3, none⟩ = some (.bool true)) (w3.alloc (.cells #[.int .u64 0, .int .u64 0, .slice none 0 0, .bool true] 34)).drew := ⟨(hn12.keeps ((Keeps.refl (fun _ => False) _).drew) (fun h => h)).cell 0, (hn12.keeps ((Keeps.refl (fun _ => False) _).drew) (fun h => h)).cell 1, (hn12.keeps ((Keeps.refl (fun _ => False) _).drew) (fun h => h)).cell 2, (hn12.keeps ((Keeps.refl (fun _ => False) _).drew) (fun h => h)).cell 3⟩
    have hfa := ((((hn12.far (p := ⟨w.heap.size + 1, 0, none⟩) (by show w3.heap.size ≠ w.heap.size + 1; omega) (.int .u64 0)).far (p := ⟨w.heap.size + 1, 1, none⟩) (by show w3.heap.size ≠ w.heap.size + 1; omega) (.int .u64 0)).far (p := ⟨w.heap.size + 1, 2, none⟩) (by show w3.heap.size ≠ w.heap.size + 1; omega) (.slice none 0 0)).far (p := ⟨w.heap.size + 1, 3, none⟩) (by show w3.heap.size ≠ w.heap.size + 1; omega) (.bool true))
    have hs1 : (fun w' => w'.cell? ⟨w3.heap.size, 0, none⟩ = some (.int .u64 0) ∧ w'.cell? ⟨w3.heap.size, 1, none⟩ = some (.int .u64 0) ∧ w'.cell? ⟨w3.heap.size, 2, none⟩ = some (.slice none 0 0) ∧ w'.cell? ⟨w3.heap.size, 3, none⟩ = some (.bool true)) (((((w3.alloc (.cells #[.int .u64 0, .int .u64 0, .slice none 0 0, .bool true] 34)).setCell ⟨w.heap.size + 1, 0, none⟩ (.int .u64 0)).setCell ⟨w.heap.size + 1, 1, none⟩ (.int .u64 0)).setCell ⟨w.heap.size + 1, 2, none⟩ (.slice none 0 0)).setCell ⟨w.heap.size + 1, 3, none⟩ (.bool true)).drew := ⟨(hfa.keeps ((Keeps.refl (fun _ => False) _).drew) (fun h => h)).cell 0, (hfa.keeps ((Keeps.refl (fun _ => False) _).drew) (fun h => h)).cell 1, (hfa.keeps ((Keeps.refl (fun _ => False) _).drew) (fun h => h)).cell 2, (hfa.keeps ((Keeps.refl (fun _ => False) _).drew) (fun h => h)).cell 3⟩
    have hnb := Whole.new ((((w3.setCell ⟨w.heap.size + 1, 0, none⟩ (.int .u64 0)).setCell ⟨w.heap.size + 1, 1, none⟩ (.int .u64 0)).setCell ⟨w.heap.size + 1, 2, none⟩ (.slice none 0 0)).setCell ⟨w.heap.size + 1, 3, none⟩ (.bool true)) 34 #[.int .u64 0, .int .u64 0, .slice none 0 0, .bool true]
    simp only [World.size_setCell] at hnb
    have hs2 : (fun w' => w'.cell? ⟨w3.heap.size, 0, none⟩ = some (.int .u64 0) ∧ w'.cell? ⟨w3.heap.size, 1, none⟩ = some (.int .u64 0) ∧ w'.cell? ⟨w3.heap.size, 2, none⟩ = some (.slice none 0 0) ∧ w'.cell? ⟨w3.heap.size, 3, none⟩ = some (.bool true)) (((((w3.setCell ⟨w.heap.size + 1, 0, none⟩ (.int .u64 0)).setCell ⟨w.heap.size + 1, 1, none⟩ (.int .u64 0)).setCell ⟨w.heap.size + 1, 2, none⟩ (.slice none 0 0)).setCell ⟨w.heap.size + 1, 3, none⟩ (.bool true)).alloc (.cells #[.int .u64 0, .int .u64 0, .slice none 0 0, .bool true] 34)).drew := ⟨(hnb.keeps ((Keeps.refl (fun _ => False) _).drew) (fun h => h)).cell 0, (hnb.keeps ((Keeps.refl (fun _ => False) _).drew) (fun h => h)).cell 1, (hnb.keeps ((Keeps.refl (fun _ => False) _).drew) (fun h => h)).cell 2, (hnb.keeps ((Keeps.refl (fun _ => False) _).drew) (fun h => h)).cell 3⟩
    go_region_held3 (fun w' => w'.cell? ⟨w3.heap.size, 0, none⟩ = some (.int .u64 0) ∧ w'.cell? ⟨w3.heap.size, 1, none⟩ = some (.int .u64 0) ∧ w'.cell? ⟨w3.heap.size, 2, none⟩ = some (.slice none 0 0) ∧ w'.cell? ⟨w3.heap.size, 3, none⟩ = some (.bool true)) (with_reducible first | exact hs0 | exact hs1 | exact hs2) (fail)
    all_goals (go_wp2_with fail)
    have r1 := fun o => (((((hr.put 0 (.int .u64 0)).put 1 (.int .u64 0)).put 2 (.slice none 0 0)).put 3 (.bool true)).alloc o).keeps ((Keeps.refl (fun _ => False) _).drew) (fun h => h)
    have hld := fun o => run_loadVar_row (P := Tryd.prog) _ (w.heap.size + 1) 34 34 _ (0, 0) _ (r1 o) Tryd.underlying34 rfl infoGot
    have kn := fun o => (((((kk.setCell (p := ⟨w.heap.size + 1, 0, none⟩) (.inr (by show w.heap.size ≤ w.heap.size + 1; omega)) (.int .u64 0)).setCell (p := ⟨w.heap.size + 1, 1, none⟩) (.inr (by show w.heap.size ≤ w.heap.size + 1; omega)) (.int .u64 0)).setCell (p := ⟨w.heap.size + 1, 2, none⟩) (.inr (by show w.heap.size ≤ w.heap.size + 1; omega)) (.slice none 0 0)).setCell (p := ⟨w.heap.size + 1, 3, none⟩) (.inr (by show w.heap.size ≤ w.heap.size + 1; omega)) (.bool true)).alloc o).drew
    exact bodyPost_ret (results_cell3 rfl _ ⟨w.heap.size + 1, 0, none⟩ _ _ rfl (hld _)) rfl ⟨.bad HU.out rfl, kn _⟩
end Go.Proofs.YthfoleapdmpdfaaDoor
