/- A column of wide decimals with its rows, and its bytes. Conditions: at most 1000 rows; each word fits. -/
import Derived.Test.YtmdmccjmmljbkaaGreatHi
import Derived.Test.YtmdmccjmmljbkaaGreatWe
import Derived.Test.YtmdmccjmmljbkaaGreatEe
import Derived.Test.YtmdmccjmmljbkaaGreatOpen
namespace Go.Proofs.YtmdmccjmmljbkaaGreat
open Go.RowKit Go.Lib
set_option linter.unusedVariables false
theorem rowAtV {w w' : World} {RA : Option Addr} {R : List (List Nat)} {k : Nat} {xs : List Nat} (h : RowsV w RA (R.map qw)) (hk : R[k]? = some xs) (K : Keeps (fun _ => False) w w') : ∃ (ad : Addr) (B : Option Addr) (d : Nat), RA = some ad ∧ ad.block < w.heap.size ∧ w'.cell? (ad.add k) = some (.slice B xs.length d) ∧ Rd w' 1 B xs.length (qw xs) := by
  obtain ⟨ad, B, d, h1, h2, h3, h4⟩ := h k (qw xs) (by rw [List.getElem?_map, hk]; rfl)
  have hl : (qw xs).length = xs.length := by simp [qw]
  rw [hl] at h3 h4
  exact ⟨ad, B, d, h1, h2, (K.cell (by rw [blk_add]; exact h2) (fun h => h)).trans h3, h4.keeps K (fun _ _ h => h)⟩
theorem flat_one {α : Type} (l : List α) (f : α → Value) : (l.map fun x => [f x]).flatten = l.map f := by
  induction l with
  | nil => rfl
  | cons x r ih => rw [List.map_cons, List.flatten_cons, ih]; rfl
theorem wordD {xs : List Nat} (h : ∀ x ∈ xs, x < 18446744073709551616) {i : Nat} : xs.getD i 0 < 18446744073709551616 := by
  rw [List.getD_eq_getElem?_getD]
  cases hx : xs[i]? with
  | none => simp
  | some x => exact h x (List.mem_of_getElem? hx)
abbrev tv9 (xs : List Nat) : List Value := [.int .i64 (IntKind.i64.wrap ((xs.getD 0 0 : Nat) : Int))]
set_option maxRecDepth 100000 in
set_option maxHeartbeats 2000000 in
theorem fil9 (w : World) (p tx : Value) (RA : Option Addr) (m cm : Nat) (R : List (List Nat)) (hl : R.length = m) (hR : RowsV w RA (R.map qw)) (hm : m ≤ 1000) : Calls Tryz.prog 7 #[.agg #[.int .i64 9, p, tx, .slice RA m cm]] w fun e w' => ∃ G B A c, e = .returned (.tuple #[tcv9 G B, .bool true]) ∧ WAt 137 134 1 w' w.heap.size G A m c (R.map tv9).flatten ∧ Keeps (fun _ => False) w w' := by
  have HT := Lib.hid (fun w => tCol9 w p tx (.slice RA m cm))
  have HR := Lib.hid hR
  have HL := Lib.hid hl
  have K0 := Lib.hid (((Keeps.refl (fun _ => False) w).alloc (.cells #[.int .i64 9, p, tx, .slice RA m cm] 29)).alloc (.cells #[.nilIface, .nilFunc, .nilFunc, .nilFunc] 39))
  have HB0 := Lib.hid ((Whole.new w 29 #[.int .i64 9, p, tx, .slice RA m cm]).alloc (.cells #[.nilIface, .nilFunc, .nilFunc, .nilFunc] 39))
  have HZ0 := Whole.new (w.alloc (.cells #[.int .i64 9, p, tx, .slice RA m cm] 29)) 39 #[.nilIface, .nilFunc, .nilFunc, .nilFunc]
  rw [World.size_alloc] at HZ0
  have HZ := Lib.hid HZ0
  clear hR hl HZ0
  go_enter Tryz.func7, Tryz.ntmps7
  go_wp2_with fail
  refine (HT.out _).mono ?_
  rintro e w1 ⟨rfl, K1, hc1, c0, c1⟩
  simp only [World.size_alloc] at c0 c1 hc1 ⊢
  obtain ⟨G, hG⟩ : ∃ G, G = w.heap.size + 1 + 1 + 1 + 1 + 1 + 1 := ⟨_, rfl⟩
  obtain ⟨B, hB⟩ : ∃ B, B = G + 1 := ⟨_, rfl⟩
  rw [← hG] at hc1 c0 c1 ⊢
  rw [← hB] at c0 c1 ⊢
  have HK1 := Lib.hid (K0.out.trans K1 (fun _ _ h => h))
  have HB1 := Lib.hid (HB0.out.keeps K1 (fun h => h))
  have HZ1 := Lib.hid (HZ.out.keeps K1 (fun h => h))
  have HC1 := Lib.hid hc1
  have HC0 := Lib.hid c0
  have HCB := Lib.hid c1
  have HGB := Lib.hid (And.intro hG hB)
  clear K1 hc1 c0 c1 hG hB
  go_wp2_with fail
  have HXB := Lib.hid (show B + 1 < w1.heap.size from World.block_lt_of_cell? _ _ HCB.out)
  have HXV := Lib.hid (Whole.new w1 39 #[.iface 135 (.pointer (some ⟨G, 0, none⟩)), .func (.func 72) #[] #[.pointer (some ⟨B, 0, none⟩), .pointer (some ⟨B + 1, 0, none⟩)], .func (.func 73) #[] #[.pointer (some ⟨B + 2, 0, none⟩), .pointer (some ⟨B, 0, none⟩)], .func (.func 74) #[] #[.pointer (some ⟨B + 1, 0, none⟩), .pointer (some ⟨B, 0, none⟩)]])
  have hHB2 := HB1.out.alloc (.cells #[.iface 135 (.pointer (some ⟨G, 0, none⟩)), .func (.func 72) #[] #[.pointer (some ⟨B, 0, none⟩), .pointer (some ⟨B + 1, 0, none⟩)], .func (.func 73) #[] #[.pointer (some ⟨B + 2, 0, none⟩), .pointer (some ⟨B, 0, none⟩)], .func (.func 74) #[] #[.pointer (some ⟨B + 1, 0, none⟩), .pointer (some ⟨B, 0, none⟩)]] 39)
  have HHB := Lib.hid hHB2
  have KXV := Lib.hid ((Keeps.refl (fun _ => False) w1).alloc (.cells #[.iface 135 (.pointer (some ⟨G, 0, none⟩)), .func (.func 72) #[] #[.pointer (some ⟨B, 0, none⟩), .pointer (some ⟨B + 1, 0, none⟩)], .func (.func 73) #[] #[.pointer (some ⟨B + 2, 0, none⟩), .pointer (some ⟨B, 0, none⟩)], .func (.func 74) #[] #[.pointer (some ⟨B + 1, 0, none⟩), .pointer (some ⟨B, 0, none⟩)]] 39))
  obtain ⟨X, hX⟩ : ∃ X, X = w1.heap.size := ⟨_, rfl⟩
  have HXX := Lib.hid hX
  rw [← hX] at HXB HXV ⊢
  clear hHB2 hX
  go_loopw [6] (fun i wr => ∃ (k : Nat) (A : Option Addr) (c : Nat), k ≤ m ∧ i = .int .i64 k ∧ Hid (WAt 137 134 1 wr w.heap.size G A k c ((R.take k).map tv9).flatten) ∧ Hid (Keeps (fun _ => False) w wr) ∧ Hid (Whole wr w.heap.size 29 #[.int .i64 9, p, tx, .slice RA m cm]) ∧ Hid (Whole wr X 39 #[.iface 135 (.pointer (some ⟨G, 0, none⟩)), .func (.func 72) #[] #[.pointer (some ⟨B, 0, none⟩), .pointer (some ⟨B + 1, 0, none⟩)], .func (.func 73) #[] #[.pointer (some ⟨B + 2, 0, none⟩), .pointer (some ⟨B, 0, none⟩)], .func (.func 74) #[] #[.pointer (some ⟨B + 1, 0, none⟩), .pointer (some ⟨B, 0, none⟩)]]) ∧ Hid (Whole wr (w.heap.size + 1) 39 #[.nilIface, .nilFunc, .nilFunc, .nilFunc]) ∧ Hid (∀ q, ob A = some q → X < q) ∧ Hid (wr.cell? ⟨B, 0, none⟩ = some (.iface 135 (.pointer (some ⟨G, 0, none⟩)))) ∧ Hid (wr.cell? ⟨B + 1, 0, none⟩ = some (.func (.func 53) #[] #[]))) (fun i _ => m - (RowKit.intOf i).toNat)
  case atStart => exact ⟨0, none, 0, Nat.zero_le _, rfl, Lib.hid ⟨HC1.out.keeps KXV.out (fun h => h), World.ownsRow_nil _ _ _ _, by have := HGB.out; omega⟩, Lib.hid (HK1.out.trans KXV.out (fun _ _ h => h)), HHB, HXV, Lib.hid (HZ1.out.keeps KXV.out (fun h => h)), Lib.hid (fun q h => by cases h), Lib.hid ((KXV.out.cell (World.block_lt_of_cell? _ _ HC0.out) (fun h => h)).trans HC0.out), Lib.hid ((KXV.out.cell (World.block_lt_of_cell? _ _ HCB.out) (fun h => h)).trans HCB.out)⟩
  case round =>
    obtain ⟨k, A, c, hk, rfl, HP, HK, HH, HV, HZZ, HQ, HBA, HBB⟩ := hrel
    have b3 : wr.cell? ⟨w.heap.size, 3, none⟩ = some (.slice RA m cm) := HH.out.cell 3
    by_cases hlt : k < m
    · obtain ⟨xs, hx⟩ : ∃ xs, R[k]? = some xs := ⟨_, List.getElem?_eq_getElem (by rw [HL.out]; exact hlt)⟩
      obtain ⟨ad, U, d, rfl, hb, hc, hU⟩ := rowAtV HR.out hx HK.out
      have x1 : wr.cell? ⟨X, 1, none⟩ = some (.func (.func 72) #[] #[.pointer (some ⟨B, 0, none⟩), .pointer (some ⟨B + 1, 0, none⟩)]) := HV.out.cell 1
      have hXl := HV.out.lt
      have hXG := HGB.out
      have hXB := HXB.out
      have hsz := HK.out.size
      have HTK := Lib.hid (show ((R.take k).map tv9).flatten ++ tv9 xs = ((R.take (k + 1)).map tv9).flatten by rw [List.take_add_one, hx]; simp)
      have nX : ¬ (X = G ∨ ob A = some X) := by
        rintro (h | h)
        · omega
        · have := HQ.out _ h; omega
      have nH : ¬ (w.heap.size = G ∨ ob A = some w.heap.size) := by
        rintro (h | h)
        · omega
        · have := HQ.out _ h; omega
      have nZ : ¬ (w.heap.size + 1 = G ∨ ob A = some (w.heap.size + 1)) := by
        rintro (h | h)
        · omega
        · have := HQ.out _ h; omega
      have nR : ¬ (ad.block = G ∨ ob A = some ad.block) := by
        rintro (h | h)
        · omega
        · have := HQ.out _ h; omega
      have n0 : ¬ (B = G ∨ ob A = some B) := by
        rintro (h | h)
        · omega
        · have := HQ.out _ h; omega
      have n1 : ¬ (B + 1 = G ∨ ob A = some (B + 1)) := by
        rintro (h | h)
        · omega
        · have := HQ.out _ h; omega
      have HS := Lib.hid (fun (w' : World) (kk : Keeps (fun i => i = G ∨ ob A = some i) wr w') => show w'.cell? ⟨X, 1, none⟩ = some (.func (.func 72) #[] #[.pointer (some ⟨B, 0, none⟩), .pointer (some ⟨B + 1, 0, none⟩)]) ∧ w'.cell? ⟨w.heap.size, 3, none⟩ = some (.slice (some ad) m cm) ∧ w'.cell? (ad.add k) = some (.slice U xs.length d) from ⟨(kk.cell hXl nX).trans x1, (kk.cell (World.block_lt_of_cell? _ _ b3) nH).trans b3, (kk.cell (by rw [blk_add]; omega) (by rw [blk_add]; exact nR)).trans hc⟩)
      have HA := Lib.hid (tAdd9 wr.drew w.heap.size G B A k c _ U xs.length d xs (HP.out.new ((Keeps.refl (fun _ => False) wr).drew)) (by omega) (by simpa using HBA.out) (by simpa using HBB.out) n0 n1 rfl (hU.keeps ((Keeps.refl (fun _ => False) wr).drew) (fun _ _ h => h)))
      have kk := (Keeps.refl (fun i => i = G ∨ ob A = some i) wr).drew
      clear hx hU x1 hXG
      go_wp2_with fail
      go_region_held3 (fun w' => w'.cell? ⟨X, 1, none⟩ = some (.func (.func 72) #[] #[.pointer (some ⟨B, 0, none⟩), .pointer (some ⟨B + 1, 0, none⟩)]) ∧ w'.cell? ⟨w.heap.size, 3, none⟩ = some (.slice (some ad) m cm) ∧ w'.cell? (ad.add k) = some (.slice U xs.length d)) (first | exact HS.out _ kk | exact HS.out _ k4) (first | (go_at_call 72; refine HA.out.mono ?_; rintro e w4 ⟨A4, c4, rfl, hP4, K4, hat4⟩; have k4 := kk.trans K4 (fun _ _ h => h)))
      all_goals
        go_wp2_with fail
        go_roundw
        case rel =>
          have hXG := HGB.out
          have kF := HK.out.trans k4 (S := fun _ => False) (fun i hi h => by
            rcases h with h | h
            · omega
            · have := HQ.out _ h; omega)
          refine ⟨k + 1, A4, c4, by omega, by go_num, ?_, Lib.hid kF, Lib.hid (HH.out.keeps k4 nH), Lib.hid (HV.out.keeps k4 nX), Lib.hid (HZZ.out.keeps k4 nZ), Lib.hid ?_, Lib.hid ((k4.cell (World.block_lt_of_cell? _ _ HBA.out) n0).trans HBA.out), Lib.hid ((k4.cell (World.block_lt_of_cell? _ _ HBB.out) n1).trans HBB.out)⟩
          · rw [← HTK.out]; exact Lib.hid hP4
          · intro q hq
            rcases hat4 with e | e
            · exact HQ.out q (e ▸ hq)
            · have := e q hq
              have h2 : wr.heap.size ≤ wr.drew.heap.size := kk.size
              omega
        case measure => (first | (simp [RowKit.intOf]; done) | (simp [RowKit.intOf]; omega))
    · have hkm : k = m := by omega
      subst hkm
      have z0 : wr.cell? ⟨X, 0, none⟩ = some (.iface 135 (.pointer (some ⟨G, 0, none⟩))) := HV.out.cell 0
      have y0 : wr.cell? ⟨w.heap.size + 1, 0, none⟩ = some (.nilIface) := HZZ.out.cell 0
      have f0 : wr.frozen? ⟨w.heap.size + 1, 0, none⟩ = false := HZZ.out.frozen 0
      have z1 : wr.cell? ⟨X, 1, none⟩ = some (.func (.func 72) #[] #[.pointer (some ⟨B, 0, none⟩), .pointer (some ⟨B + 1, 0, none⟩)]) := HV.out.cell 1
      have y1 : wr.cell? ⟨w.heap.size + 1, 1, none⟩ = some (.nilFunc) := HZZ.out.cell 1
      have f1 : wr.frozen? ⟨w.heap.size + 1, 1, none⟩ = false := HZZ.out.frozen 1
      have z2 : wr.cell? ⟨X, 2, none⟩ = some (.func (.func 73) #[] #[.pointer (some ⟨B + 2, 0, none⟩), .pointer (some ⟨B, 0, none⟩)]) := HV.out.cell 2
      have y2 : wr.cell? ⟨w.heap.size + 1, 2, none⟩ = some (.nilFunc) := HZZ.out.cell 2
      have f2 : wr.frozen? ⟨w.heap.size + 1, 2, none⟩ = false := HZZ.out.frozen 2
      have z3 : wr.cell? ⟨X, 3, none⟩ = some (.func (.func 74) #[] #[.pointer (some ⟨B + 1, 0, none⟩), .pointer (some ⟨B, 0, none⟩)]) := HV.out.cell 3
      have y3 : wr.cell? ⟨w.heap.size + 1, 3, none⟩ = some (.nilFunc) := HZZ.out.cell 3
      have f3 : wr.frozen? ⟨w.heap.size + 1, 3, none⟩ = false := HZZ.out.frozen 3
      have hlv := HZZ.out.lt
      have hnX : ¬ (X = w.heap.size + 1) := by have := HGB.out; have := HXB.out; omega
      go_wp2_with fail
      have r1 := ((((HZZ.out.put 0 (.iface 135 (.pointer (some ⟨G, 0, none⟩)))).put 1 (.func (.func 72) #[] #[.pointer (some ⟨B, 0, none⟩), .pointer (some ⟨B + 1, 0, none⟩)])).put 2 (.func (.func 73) #[] #[.pointer (some ⟨B + 2, 0, none⟩), .pointer (some ⟨B, 0, none⟩)])).put 3 (.func (.func 74) #[] #[.pointer (some ⟨B + 1, 0, none⟩), .pointer (some ⟨B, 0, none⟩)]))
      have hld := run_loadVar_row (P := Tryz.prog) _ (w.heap.size + 1) 39 39 _ (0, 0) _ r1 Tryz.underlying39 rfl infoTC
      have KS := (((((Keeps.refl (fun i => i = w.heap.size + 1) wr).setCell (p := ⟨w.heap.size + 1, 0, none⟩) (.inl rfl) (.iface 135 (.pointer (some ⟨G, 0, none⟩)))).setCell (p := ⟨w.heap.size + 1, 1, none⟩) (.inl rfl) (.func (.func 72) #[] #[.pointer (some ⟨B, 0, none⟩), .pointer (some ⟨B + 1, 0, none⟩)])).setCell (p := ⟨w.heap.size + 1, 2, none⟩) (.inl rfl) (.func (.func 73) #[] #[.pointer (some ⟨B + 2, 0, none⟩), .pointer (some ⟨B, 0, none⟩)])).setCell (p := ⟨w.heap.size + 1, 3, none⟩) (.inl rfl) (.func (.func 74) #[] #[.pointer (some ⟨B + 1, 0, none⟩), .pointer (some ⟨B, 0, none⟩)]))
      have hP := HP.out
      rw [List.take_of_length_le (by rw [HL.out]; exact Nat.le_refl _)] at hP
      have hXG := HGB.out
      have hXB := HXB.out
      exact bodyPost_ret (results_ct rfl _ ⟨w.heap.size + 1, 0, none⟩ _ _ rfl hld) rfl ⟨G, B, A, c, rfl, ⟨hP.blk.keeps KS (by omega), own_keeps hP.own KS (fun q hq h => by rw [ownBlock_slice] at hq; have := HQ.out q hq; omega), hP.lo⟩, HK.out.trans KS (fun i hi h => by omega)⟩
theorem iTEnc9 : (Tryz.prog.info? 135).map (fun i => (i.methods.find? (·.name == "EncodeColumn")).map (fun m => (m.path.toList.length, m.func))) = some (some (0, some (179, false))) := by kernel_rfl
theorem mTEnc9 {w : World} {g : Nat} {x : Value} (hW : Whole w g 137 #[x]) (fuel : Nat) : (method (fuel + 1) 135 (.pointer (some ⟨g, 0, none⟩)) "EncodeColumn").run Tryz.prog w = .ok (179, x) w := by
  obtain ⟨i, m, h1, h2, h3, h4⟩ := method_row iTEnc9
  exact method_val h1 h2 h3 h4 Tryz.underlying135 (by have h0 : w.cell? ⟨g, 0, none⟩ = some x := hW.cell 0; go_simp)
theorem fTEnc9 (args : Array Value) (w : World) : (callFunc 179 args).run Tryz.prog w = .ok (.enter 179 args) w := by kernel_rfl
/-- The bytes of a column of kind 9. -/
def tb9 (R : List (List Nat)) : List UInt8 := u64s (R.map fun xs : List Nat => xs.getD 0 0)
set_option maxRecDepth 100000 in
set_option maxHeartbeats 2000000 in
theorem tce9 (w : World) (p tx : Value) (RA : Option Addr) (m cm : Nat) (R : List (List Nat)) (hl : R.length = m) (hR : RowsV w RA (R.map qw)) (hm : m ≤ 1000) (hw : ∀ xs ∈ R, ∀ x ∈ xs, x < 18446744073709551616) : Calls Tryz.prog 4 #[.agg #[.int .i64 9, p, tx, .slice RA m cm]] w fun e w' => EncRes w (tb9 R) e w' := by
  have HF := Lib.hid (fun w' (K : Keeps (fun _ => False) w w') => fil9 w' p tx RA m cm R hl (hR.keeps K) hm)
  have HL := Lib.hid hl
  have HW := Lib.hid hw
  have K0 := Lib.hid ((Keeps.refl (fun _ => False) w).alloc (.cells #[.int .i64 9, p, tx, .slice RA m cm] 29))
  clear hR hl hw
  go_enter Tryz.func4, Tryz.ntmps4
  go_wp2_with fail
  refine (HF.out _ K0.out).mono ?_
  rintro e w1 ⟨G, B, A, c, rfl, hC, K1⟩
  have HC := Lib.hid hC
  have HK1 := Lib.hid (K0.out.trans K1 (fun _ _ h => h))
  have hlo := hC.own.lt
  rw [ownBlock_slice] at hlo
  have HE := Lib.hid (fun W (kk : Keeps (fun _ => False) w1 W) => show Calls Tryz.prog 8 #[.func (.method "EncodeColumn") #[.iface 135 (.pointer (some ⟨G, 0, none⟩))] #[]] W fun e w' => EncRes W (tb9 R) e w' from by
    have K2 := (Keeps.refl (fun _ => False) W).alloc (.cells #[.slice none 0 0] 47)
    have hC1 := (hC.new kk).new K2
    refine encodedE W 135 _ _ 179 _ fTEnc9 (mTEnc9 hC1.blk _) ?_
    exact (encD64 (bufW W) W.heap.size W.heap.size none 0 [] A m c (R.map fun xs : List Nat => xs.getD 0 0) (bufNew W (Nat.le_refl _)) (by simp) (by rw [List.length_map]; exact HL.out) (fun x hx => by obtain ⟨xs, h1, rfl⟩ := List.mem_map.1 hx; exact wordD (HW.out xs h1)) (by omega) (by have h := Rd.own hC1.own; rw [show (R.map tv9).flatten = d64c (R.map fun xs : List Nat => xs.getD 0 0) from by rw [d64c, List.map_map]; exact flat_one _ _] at h; exact h) (fun q hq => ⟨by have := (hlo q hq).2; have := kk.size; omega, fun h => by cases h⟩)).mono fun e w' h => h)
  clear hC K1 hlo
  go_wp2_with fail
  refine (HE.out _ ((Keeps.refl (fun _ => False) w1).alloc _)).mono ?_
  rintro e w3 ⟨A3, c3, rfl, ho, K3⟩
  go_wp2_with fail
  go_ret
  have K4 := HK1.out.alloc (.cells #[.iface 135 (.pointer (some ⟨G, 0, none⟩)), .func (.func 72) #[] #[.pointer (some ⟨B, 0, none⟩), .pointer (some ⟨B + 1, 0, none⟩)], .func (.func 73) #[] #[.pointer (some ⟨B + 2, 0, none⟩), .pointer (some ⟨B, 0, none⟩)], .func (.func 74) #[] #[.pointer (some ⟨B + 1, 0, none⟩), .pointer (some ⟨B, 0, none⟩)]] 39)
  exact ⟨A3, c3, rfl, own_low ho K4.size, K4.trans K3 (fun _ _ h => h)⟩
abbrev tv10 (xs : List Nat) : List Value := [.int .u64 ((xs.getD 0 0 : Nat) : Int), .int .u64 ((xs.getD 1 0 : Nat) : Int)]
set_option maxRecDepth 100000 in
set_option maxHeartbeats 2000000 in
theorem fil10 (w : World) (p tx : Value) (RA : Option Addr) (m cm : Nat) (R : List (List Nat)) (hl : R.length = m) (hR : RowsV w RA (R.map qw)) (hm : m ≤ 1000) : Calls Tryz.prog 7 #[.agg #[.int .i64 10, p, tx, .slice RA m cm]] w fun e w' => ∃ G B A c, e = .returned (.tuple #[tcv10 G B, .bool true]) ∧ WAt 145 142 2 w' w.heap.size G A m c (R.map tv10).flatten ∧ Keeps (fun _ => False) w w' := by
  have HT := Lib.hid (fun w => tCol10 w p tx (.slice RA m cm))
  have HR := Lib.hid hR
  have HL := Lib.hid hl
  have K0 := Lib.hid (((Keeps.refl (fun _ => False) w).alloc (.cells #[.int .i64 10, p, tx, .slice RA m cm] 29)).alloc (.cells #[.nilIface, .nilFunc, .nilFunc, .nilFunc] 39))
  have HB0 := Lib.hid ((Whole.new w 29 #[.int .i64 10, p, tx, .slice RA m cm]).alloc (.cells #[.nilIface, .nilFunc, .nilFunc, .nilFunc] 39))
  have HZ0 := Whole.new (w.alloc (.cells #[.int .i64 10, p, tx, .slice RA m cm] 29)) 39 #[.nilIface, .nilFunc, .nilFunc, .nilFunc]
  rw [World.size_alloc] at HZ0
  have HZ := Lib.hid HZ0
  clear hR hl HZ0
  go_enter Tryz.func7, Tryz.ntmps7
  go_wp2_with fail
  refine (HT.out _).mono ?_
  rintro e w1 ⟨rfl, K1, hc1, c0, c1⟩
  simp only [World.size_alloc] at c0 c1 hc1 ⊢
  obtain ⟨G, hG⟩ : ∃ G, G = w.heap.size + 1 + 1 + 1 + 1 + 1 + 1 := ⟨_, rfl⟩
  obtain ⟨B, hB⟩ : ∃ B, B = G + 1 := ⟨_, rfl⟩
  rw [← hG] at hc1 c0 c1 ⊢
  rw [← hB] at c0 c1 ⊢
  have HK1 := Lib.hid (K0.out.trans K1 (fun _ _ h => h))
  have HB1 := Lib.hid (HB0.out.keeps K1 (fun h => h))
  have HZ1 := Lib.hid (HZ.out.keeps K1 (fun h => h))
  have HC1 := Lib.hid hc1
  have HC0 := Lib.hid c0
  have HCB := Lib.hid c1
  have HGB := Lib.hid (And.intro hG hB)
  clear K1 hc1 c0 c1 hG hB
  go_wp2_with fail
  have HXB := Lib.hid (show B + 1 < w1.heap.size from World.block_lt_of_cell? _ _ HCB.out)
  have HXV := Lib.hid (Whole.new w1 39 #[.iface 143 (.pointer (some ⟨G, 0, none⟩)), .func (.func 75) #[] #[.pointer (some ⟨B, 0, none⟩), .pointer (some ⟨B + 1, 0, none⟩)], .func (.func 76) #[] #[.pointer (some ⟨B + 2, 0, none⟩), .pointer (some ⟨B, 0, none⟩)], .func (.func 77) #[] #[.pointer (some ⟨B + 1, 0, none⟩), .pointer (some ⟨B, 0, none⟩)]])
  have hHB2 := HB1.out.alloc (.cells #[.iface 143 (.pointer (some ⟨G, 0, none⟩)), .func (.func 75) #[] #[.pointer (some ⟨B, 0, none⟩), .pointer (some ⟨B + 1, 0, none⟩)], .func (.func 76) #[] #[.pointer (some ⟨B + 2, 0, none⟩), .pointer (some ⟨B, 0, none⟩)], .func (.func 77) #[] #[.pointer (some ⟨B + 1, 0, none⟩), .pointer (some ⟨B, 0, none⟩)]] 39)
  have HHB := Lib.hid hHB2
  have KXV := Lib.hid ((Keeps.refl (fun _ => False) w1).alloc (.cells #[.iface 143 (.pointer (some ⟨G, 0, none⟩)), .func (.func 75) #[] #[.pointer (some ⟨B, 0, none⟩), .pointer (some ⟨B + 1, 0, none⟩)], .func (.func 76) #[] #[.pointer (some ⟨B + 2, 0, none⟩), .pointer (some ⟨B, 0, none⟩)], .func (.func 77) #[] #[.pointer (some ⟨B + 1, 0, none⟩), .pointer (some ⟨B, 0, none⟩)]] 39))
  obtain ⟨X, hX⟩ : ∃ X, X = w1.heap.size := ⟨_, rfl⟩
  have HXX := Lib.hid hX
  rw [← hX] at HXB HXV ⊢
  clear hHB2 hX
  go_loopw [6] (fun i wr => ∃ (k : Nat) (A : Option Addr) (c : Nat), k ≤ m ∧ i = .int .i64 k ∧ Hid (WAt 145 142 2 wr w.heap.size G A k c ((R.take k).map tv10).flatten) ∧ Hid (Keeps (fun _ => False) w wr) ∧ Hid (Whole wr w.heap.size 29 #[.int .i64 10, p, tx, .slice RA m cm]) ∧ Hid (Whole wr X 39 #[.iface 143 (.pointer (some ⟨G, 0, none⟩)), .func (.func 75) #[] #[.pointer (some ⟨B, 0, none⟩), .pointer (some ⟨B + 1, 0, none⟩)], .func (.func 76) #[] #[.pointer (some ⟨B + 2, 0, none⟩), .pointer (some ⟨B, 0, none⟩)], .func (.func 77) #[] #[.pointer (some ⟨B + 1, 0, none⟩), .pointer (some ⟨B, 0, none⟩)]]) ∧ Hid (Whole wr (w.heap.size + 1) 39 #[.nilIface, .nilFunc, .nilFunc, .nilFunc]) ∧ Hid (∀ q, ob A = some q → X < q) ∧ Hid (wr.cell? ⟨B, 0, none⟩ = some (.iface 143 (.pointer (some ⟨G, 0, none⟩)))) ∧ Hid (wr.cell? ⟨B + 1, 0, none⟩ = some (.func (.func 56) #[] #[]))) (fun i _ => m - (RowKit.intOf i).toNat)
  case atStart => exact ⟨0, none, 0, Nat.zero_le _, rfl, Lib.hid ⟨HC1.out.keeps KXV.out (fun h => h), World.ownsRow_nil _ _ _ _, by have := HGB.out; omega⟩, Lib.hid (HK1.out.trans KXV.out (fun _ _ h => h)), HHB, HXV, Lib.hid (HZ1.out.keeps KXV.out (fun h => h)), Lib.hid (fun q h => by cases h), Lib.hid ((KXV.out.cell (World.block_lt_of_cell? _ _ HC0.out) (fun h => h)).trans HC0.out), Lib.hid ((KXV.out.cell (World.block_lt_of_cell? _ _ HCB.out) (fun h => h)).trans HCB.out)⟩
  case round =>
    obtain ⟨k, A, c, hk, rfl, HP, HK, HH, HV, HZZ, HQ, HBA, HBB⟩ := hrel
    have b3 : wr.cell? ⟨w.heap.size, 3, none⟩ = some (.slice RA m cm) := HH.out.cell 3
    by_cases hlt : k < m
    · obtain ⟨xs, hx⟩ : ∃ xs, R[k]? = some xs := ⟨_, List.getElem?_eq_getElem (by rw [HL.out]; exact hlt)⟩
      obtain ⟨ad, U, d, rfl, hb, hc, hU⟩ := rowAtV HR.out hx HK.out
      have x1 : wr.cell? ⟨X, 1, none⟩ = some (.func (.func 75) #[] #[.pointer (some ⟨B, 0, none⟩), .pointer (some ⟨B + 1, 0, none⟩)]) := HV.out.cell 1
      have hXl := HV.out.lt
      have hXG := HGB.out
      have hXB := HXB.out
      have hsz := HK.out.size
      have HTK := Lib.hid (show ((R.take k).map tv10).flatten ++ tv10 xs = ((R.take (k + 1)).map tv10).flatten by rw [List.take_add_one, hx]; simp)
      have nX : ¬ (X = G ∨ ob A = some X) := by
        rintro (h | h)
        · omega
        · have := HQ.out _ h; omega
      have nH : ¬ (w.heap.size = G ∨ ob A = some w.heap.size) := by
        rintro (h | h)
        · omega
        · have := HQ.out _ h; omega
      have nZ : ¬ (w.heap.size + 1 = G ∨ ob A = some (w.heap.size + 1)) := by
        rintro (h | h)
        · omega
        · have := HQ.out _ h; omega
      have nR : ¬ (ad.block = G ∨ ob A = some ad.block) := by
        rintro (h | h)
        · omega
        · have := HQ.out _ h; omega
      have n0 : ¬ (B = G ∨ ob A = some B) := by
        rintro (h | h)
        · omega
        · have := HQ.out _ h; omega
      have n1 : ¬ (B + 1 = G ∨ ob A = some (B + 1)) := by
        rintro (h | h)
        · omega
        · have := HQ.out _ h; omega
      have HS := Lib.hid (fun (w' : World) (kk : Keeps (fun i => i = G ∨ ob A = some i) wr w') => show w'.cell? ⟨X, 1, none⟩ = some (.func (.func 75) #[] #[.pointer (some ⟨B, 0, none⟩), .pointer (some ⟨B + 1, 0, none⟩)]) ∧ w'.cell? ⟨w.heap.size, 3, none⟩ = some (.slice (some ad) m cm) ∧ w'.cell? (ad.add k) = some (.slice U xs.length d) from ⟨(kk.cell hXl nX).trans x1, (kk.cell (World.block_lt_of_cell? _ _ b3) nH).trans b3, (kk.cell (by rw [blk_add]; omega) (by rw [blk_add]; exact nR)).trans hc⟩)
      have HA := Lib.hid (tAdd10 wr.drew w.heap.size G B A k c _ U xs.length d xs (HP.out.new ((Keeps.refl (fun _ => False) wr).drew)) (by omega) (by simpa using HBA.out) (by simpa using HBB.out) n0 n1 rfl (hU.keeps ((Keeps.refl (fun _ => False) wr).drew) (fun _ _ h => h)))
      have kk := (Keeps.refl (fun i => i = G ∨ ob A = some i) wr).drew
      clear hx hU x1 hXG
      go_wp2_with fail
      go_region_held3 (fun w' => w'.cell? ⟨X, 1, none⟩ = some (.func (.func 75) #[] #[.pointer (some ⟨B, 0, none⟩), .pointer (some ⟨B + 1, 0, none⟩)]) ∧ w'.cell? ⟨w.heap.size, 3, none⟩ = some (.slice (some ad) m cm) ∧ w'.cell? (ad.add k) = some (.slice U xs.length d)) (first | exact HS.out _ kk | exact HS.out _ k4) (first | (go_at_call 75; refine HA.out.mono ?_; rintro e w4 ⟨A4, c4, rfl, hP4, K4, hat4⟩; have k4 := kk.trans K4 (fun _ _ h => h)))
      all_goals
        go_wp2_with fail
        go_roundw
        case rel =>
          have hXG := HGB.out
          have kF := HK.out.trans k4 (S := fun _ => False) (fun i hi h => by
            rcases h with h | h
            · omega
            · have := HQ.out _ h; omega)
          refine ⟨k + 1, A4, c4, by omega, by go_num, ?_, Lib.hid kF, Lib.hid (HH.out.keeps k4 nH), Lib.hid (HV.out.keeps k4 nX), Lib.hid (HZZ.out.keeps k4 nZ), Lib.hid ?_, Lib.hid ((k4.cell (World.block_lt_of_cell? _ _ HBA.out) n0).trans HBA.out), Lib.hid ((k4.cell (World.block_lt_of_cell? _ _ HBB.out) n1).trans HBB.out)⟩
          · rw [← HTK.out]; exact Lib.hid hP4
          · intro q hq
            rcases hat4 with e | e
            · exact HQ.out q (e ▸ hq)
            · have := e q hq
              have h2 : wr.heap.size ≤ wr.drew.heap.size := kk.size
              omega
        case measure => (first | (simp [RowKit.intOf]; done) | (simp [RowKit.intOf]; omega))
    · have hkm : k = m := by omega
      subst hkm
      have z0 : wr.cell? ⟨X, 0, none⟩ = some (.iface 143 (.pointer (some ⟨G, 0, none⟩))) := HV.out.cell 0
      have y0 : wr.cell? ⟨w.heap.size + 1, 0, none⟩ = some (.nilIface) := HZZ.out.cell 0
      have f0 : wr.frozen? ⟨w.heap.size + 1, 0, none⟩ = false := HZZ.out.frozen 0
      have z1 : wr.cell? ⟨X, 1, none⟩ = some (.func (.func 75) #[] #[.pointer (some ⟨B, 0, none⟩), .pointer (some ⟨B + 1, 0, none⟩)]) := HV.out.cell 1
      have y1 : wr.cell? ⟨w.heap.size + 1, 1, none⟩ = some (.nilFunc) := HZZ.out.cell 1
      have f1 : wr.frozen? ⟨w.heap.size + 1, 1, none⟩ = false := HZZ.out.frozen 1
      have z2 : wr.cell? ⟨X, 2, none⟩ = some (.func (.func 76) #[] #[.pointer (some ⟨B + 2, 0, none⟩), .pointer (some ⟨B, 0, none⟩)]) := HV.out.cell 2
      have y2 : wr.cell? ⟨w.heap.size + 1, 2, none⟩ = some (.nilFunc) := HZZ.out.cell 2
      have f2 : wr.frozen? ⟨w.heap.size + 1, 2, none⟩ = false := HZZ.out.frozen 2
      have z3 : wr.cell? ⟨X, 3, none⟩ = some (.func (.func 77) #[] #[.pointer (some ⟨B + 1, 0, none⟩), .pointer (some ⟨B, 0, none⟩)]) := HV.out.cell 3
      have y3 : wr.cell? ⟨w.heap.size + 1, 3, none⟩ = some (.nilFunc) := HZZ.out.cell 3
      have f3 : wr.frozen? ⟨w.heap.size + 1, 3, none⟩ = false := HZZ.out.frozen 3
      have hlv := HZZ.out.lt
      have hnX : ¬ (X = w.heap.size + 1) := by have := HGB.out; have := HXB.out; omega
      go_wp2_with fail
      have r1 := ((((HZZ.out.put 0 (.iface 143 (.pointer (some ⟨G, 0, none⟩)))).put 1 (.func (.func 75) #[] #[.pointer (some ⟨B, 0, none⟩), .pointer (some ⟨B + 1, 0, none⟩)])).put 2 (.func (.func 76) #[] #[.pointer (some ⟨B + 2, 0, none⟩), .pointer (some ⟨B, 0, none⟩)])).put 3 (.func (.func 77) #[] #[.pointer (some ⟨B + 1, 0, none⟩), .pointer (some ⟨B, 0, none⟩)]))
      have hld := run_loadVar_row (P := Tryz.prog) _ (w.heap.size + 1) 39 39 _ (0, 0) _ r1 Tryz.underlying39 rfl infoTC
      have KS := (((((Keeps.refl (fun i => i = w.heap.size + 1) wr).setCell (p := ⟨w.heap.size + 1, 0, none⟩) (.inl rfl) (.iface 143 (.pointer (some ⟨G, 0, none⟩)))).setCell (p := ⟨w.heap.size + 1, 1, none⟩) (.inl rfl) (.func (.func 75) #[] #[.pointer (some ⟨B, 0, none⟩), .pointer (some ⟨B + 1, 0, none⟩)])).setCell (p := ⟨w.heap.size + 1, 2, none⟩) (.inl rfl) (.func (.func 76) #[] #[.pointer (some ⟨B + 2, 0, none⟩), .pointer (some ⟨B, 0, none⟩)])).setCell (p := ⟨w.heap.size + 1, 3, none⟩) (.inl rfl) (.func (.func 77) #[] #[.pointer (some ⟨B + 1, 0, none⟩), .pointer (some ⟨B, 0, none⟩)]))
      have hP := HP.out
      rw [List.take_of_length_le (by rw [HL.out]; exact Nat.le_refl _)] at hP
      have hXG := HGB.out
      have hXB := HXB.out
      exact bodyPost_ret (results_ct rfl _ ⟨w.heap.size + 1, 0, none⟩ _ _ rfl hld) rfl ⟨G, B, A, c, rfl, ⟨hP.blk.keeps KS (by omega), own_keeps hP.own KS (fun q hq h => by rw [ownBlock_slice] at hq; have := HQ.out q hq; omega), hP.lo⟩, HK.out.trans KS (fun i hi h => by omega)⟩
theorem iTEnc10 : (Tryz.prog.info? 143).map (fun i => (i.methods.find? (·.name == "EncodeColumn")).map (fun m => (m.path.toList.length, m.func))) = some (some (0, some (188, false))) := by kernel_rfl
theorem mTEnc10 {w : World} {g : Nat} {x : Value} (hW : Whole w g 145 #[x]) (fuel : Nat) : (method (fuel + 1) 143 (.pointer (some ⟨g, 0, none⟩)) "EncodeColumn").run Tryz.prog w = .ok (188, x) w := by
  obtain ⟨i, m, h1, h2, h3, h4⟩ := method_row iTEnc10
  exact method_val h1 h2 h3 h4 Tryz.underlying143 (by have h0 : w.cell? ⟨g, 0, none⟩ = some x := hW.cell 0; go_simp)
theorem fTEnc10 (args : Array Value) (w : World) : (callFunc 188 args).run Tryz.prog w = .ok (.enter 188 args) w := by kernel_rfl
/-- The bytes of a column of kind 10. -/
def tb10 (R : List (List Nat)) : List UInt8 := wbs2 (R.map fun xs : List Nat => (xs.getD 0 0, xs.getD 1 0))
set_option maxRecDepth 100000 in
set_option maxHeartbeats 2000000 in
theorem tce10 (w : World) (p tx : Value) (RA : Option Addr) (m cm : Nat) (R : List (List Nat)) (hl : R.length = m) (hR : RowsV w RA (R.map qw)) (hm : m ≤ 1000) (hw : ∀ xs ∈ R, ∀ x ∈ xs, x < 18446744073709551616) : Calls Tryz.prog 4 #[.agg #[.int .i64 10, p, tx, .slice RA m cm]] w fun e w' => EncRes w (tb10 R) e w' := by
  have HF := Lib.hid (fun w' (K : Keeps (fun _ => False) w w') => fil10 w' p tx RA m cm R hl (hR.keeps K) hm)
  have HL := Lib.hid hl
  have HW := Lib.hid hw
  have K0 := Lib.hid ((Keeps.refl (fun _ => False) w).alloc (.cells #[.int .i64 10, p, tx, .slice RA m cm] 29))
  clear hR hl hw
  go_enter Tryz.func4, Tryz.ntmps4
  go_wp2_with fail
  refine (HF.out _ K0.out).mono ?_
  rintro e w1 ⟨G, B, A, c, rfl, hC, K1⟩
  have HC := Lib.hid hC
  have HK1 := Lib.hid (K0.out.trans K1 (fun _ _ h => h))
  have hlo := hC.own.lt
  rw [ownBlock_slice] at hlo
  have HE := Lib.hid (fun W (kk : Keeps (fun _ => False) w1 W) => show Calls Tryz.prog 8 #[.func (.method "EncodeColumn") #[.iface 143 (.pointer (some ⟨G, 0, none⟩))] #[]] W fun e w' => EncRes W (tb10 R) e w' from by
    have K2 := (Keeps.refl (fun _ => False) W).alloc (.cells #[.slice none 0 0] 47)
    have hC1 := (hC.new kk).new K2
    refine encodedE W 143 _ _ 188 _ fTEnc10 (mTEnc10 hC1.blk _) ?_
    exact (encDecimal128 (bufW W) W.heap.size W.heap.size none 0 [] A m c (R.map fun xs : List Nat => (xs.getD 0 0, xs.getD 1 0)) (bufNew W (Nat.le_refl _)) (by simp) (by rw [List.length_map]; exact HL.out) (by omega) (by have h := Rd.own hC1.own; rw [show (R.map tv10).flatten = ((R.map fun xs : List Nat => (xs.getD 0 0, xs.getD 1 0)).map wc2).flatten from by rw [List.map_map]; rfl] at h; exact h) (fun q hq => ⟨by have := (hlo q hq).2; have := kk.size; omega, fun h => by cases h⟩)).mono fun e w' h => h)
  clear hC K1 hlo
  go_wp2_with fail
  refine (HE.out _ ((Keeps.refl (fun _ => False) w1).alloc _)).mono ?_
  rintro e w3 ⟨A3, c3, rfl, ho, K3⟩
  go_wp2_with fail
  go_ret
  have K4 := HK1.out.alloc (.cells #[.iface 143 (.pointer (some ⟨G, 0, none⟩)), .func (.func 75) #[] #[.pointer (some ⟨B, 0, none⟩), .pointer (some ⟨B + 1, 0, none⟩)], .func (.func 76) #[] #[.pointer (some ⟨B + 2, 0, none⟩), .pointer (some ⟨B, 0, none⟩)], .func (.func 77) #[] #[.pointer (some ⟨B + 1, 0, none⟩), .pointer (some ⟨B, 0, none⟩)]] 39)
  exact ⟨A3, c3, rfl, own_low ho K4.size, K4.trans K3 (fun _ _ h => h)⟩
abbrev tv11 (xs : List Nat) : List Value := [.int .u64 ((xs.getD 0 0 : Nat) : Int), .int .u64 ((xs.getD 1 0 : Nat) : Int), .int .u64 ((xs.getD 2 0 : Nat) : Int), .int .u64 ((xs.getD 3 0 : Nat) : Int)]
set_option maxRecDepth 100000 in
set_option maxHeartbeats 2000000 in
theorem fil11 (w : World) (p tx : Value) (RA : Option Addr) (m cm : Nat) (R : List (List Nat)) (hl : R.length = m) (hR : RowsV w RA (R.map qw)) (hm : m ≤ 1000) : Calls Tryz.prog 7 #[.agg #[.int .i64 11, p, tx, .slice RA m cm]] w fun e w' => ∃ G B A c, e = .returned (.tuple #[tcv11 G B, .bool true]) ∧ WAt 155 152 4 w' w.heap.size G A m c (R.map tv11).flatten ∧ Keeps (fun _ => False) w w' := by
  have HT := Lib.hid (fun w => tCol11 w p tx (.slice RA m cm))
  have HR := Lib.hid hR
  have HL := Lib.hid hl
  have K0 := Lib.hid (((Keeps.refl (fun _ => False) w).alloc (.cells #[.int .i64 11, p, tx, .slice RA m cm] 29)).alloc (.cells #[.nilIface, .nilFunc, .nilFunc, .nilFunc] 39))
  have HB0 := Lib.hid ((Whole.new w 29 #[.int .i64 11, p, tx, .slice RA m cm]).alloc (.cells #[.nilIface, .nilFunc, .nilFunc, .nilFunc] 39))
  have HZ0 := Whole.new (w.alloc (.cells #[.int .i64 11, p, tx, .slice RA m cm] 29)) 39 #[.nilIface, .nilFunc, .nilFunc, .nilFunc]
  rw [World.size_alloc] at HZ0
  have HZ := Lib.hid HZ0
  clear hR hl HZ0
  go_enter Tryz.func7, Tryz.ntmps7
  go_wp2_with fail
  refine (HT.out _).mono ?_
  rintro e w1 ⟨rfl, K1, hc1, c0, c1⟩
  simp only [World.size_alloc] at c0 c1 hc1 ⊢
  obtain ⟨G, hG⟩ : ∃ G, G = w.heap.size + 1 + 1 + 1 + 1 + 1 + 1 := ⟨_, rfl⟩
  obtain ⟨B, hB⟩ : ∃ B, B = G + 1 := ⟨_, rfl⟩
  rw [← hG] at hc1 c0 c1 ⊢
  rw [← hB] at c0 c1 ⊢
  have HK1 := Lib.hid (K0.out.trans K1 (fun _ _ h => h))
  have HB1 := Lib.hid (HB0.out.keeps K1 (fun h => h))
  have HZ1 := Lib.hid (HZ.out.keeps K1 (fun h => h))
  have HC1 := Lib.hid hc1
  have HC0 := Lib.hid c0
  have HCB := Lib.hid c1
  have HGB := Lib.hid (And.intro hG hB)
  clear K1 hc1 c0 c1 hG hB
  go_wp2_with fail
  have HXB := Lib.hid (show B + 1 < w1.heap.size from World.block_lt_of_cell? _ _ HCB.out)
  have HXV := Lib.hid (Whole.new w1 39 #[.iface 153 (.pointer (some ⟨G, 0, none⟩)), .func (.func 78) #[] #[.pointer (some ⟨B, 0, none⟩), .pointer (some ⟨B + 1, 0, none⟩)], .func (.func 79) #[] #[.pointer (some ⟨B + 2, 0, none⟩), .pointer (some ⟨B, 0, none⟩)], .func (.func 80) #[] #[.pointer (some ⟨B + 1, 0, none⟩), .pointer (some ⟨B, 0, none⟩)]])
  have hHB2 := HB1.out.alloc (.cells #[.iface 153 (.pointer (some ⟨G, 0, none⟩)), .func (.func 78) #[] #[.pointer (some ⟨B, 0, none⟩), .pointer (some ⟨B + 1, 0, none⟩)], .func (.func 79) #[] #[.pointer (some ⟨B + 2, 0, none⟩), .pointer (some ⟨B, 0, none⟩)], .func (.func 80) #[] #[.pointer (some ⟨B + 1, 0, none⟩), .pointer (some ⟨B, 0, none⟩)]] 39)
  have HHB := Lib.hid hHB2
  have KXV := Lib.hid ((Keeps.refl (fun _ => False) w1).alloc (.cells #[.iface 153 (.pointer (some ⟨G, 0, none⟩)), .func (.func 78) #[] #[.pointer (some ⟨B, 0, none⟩), .pointer (some ⟨B + 1, 0, none⟩)], .func (.func 79) #[] #[.pointer (some ⟨B + 2, 0, none⟩), .pointer (some ⟨B, 0, none⟩)], .func (.func 80) #[] #[.pointer (some ⟨B + 1, 0, none⟩), .pointer (some ⟨B, 0, none⟩)]] 39))
  obtain ⟨X, hX⟩ : ∃ X, X = w1.heap.size := ⟨_, rfl⟩
  have HXX := Lib.hid hX
  rw [← hX] at HXB HXV ⊢
  clear hHB2 hX
  go_loopw [6] (fun i wr => ∃ (k : Nat) (A : Option Addr) (c : Nat), k ≤ m ∧ i = .int .i64 k ∧ Hid (WAt 155 152 4 wr w.heap.size G A k c ((R.take k).map tv11).flatten) ∧ Hid (Keeps (fun _ => False) w wr) ∧ Hid (Whole wr w.heap.size 29 #[.int .i64 11, p, tx, .slice RA m cm]) ∧ Hid (Whole wr X 39 #[.iface 153 (.pointer (some ⟨G, 0, none⟩)), .func (.func 78) #[] #[.pointer (some ⟨B, 0, none⟩), .pointer (some ⟨B + 1, 0, none⟩)], .func (.func 79) #[] #[.pointer (some ⟨B + 2, 0, none⟩), .pointer (some ⟨B, 0, none⟩)], .func (.func 80) #[] #[.pointer (some ⟨B + 1, 0, none⟩), .pointer (some ⟨B, 0, none⟩)]]) ∧ Hid (Whole wr (w.heap.size + 1) 39 #[.nilIface, .nilFunc, .nilFunc, .nilFunc]) ∧ Hid (∀ q, ob A = some q → X < q) ∧ Hid (wr.cell? ⟨B, 0, none⟩ = some (.iface 153 (.pointer (some ⟨G, 0, none⟩)))) ∧ Hid (wr.cell? ⟨B + 1, 0, none⟩ = some (.func (.func 60) #[] #[]))) (fun i _ => m - (RowKit.intOf i).toNat)
  case atStart => exact ⟨0, none, 0, Nat.zero_le _, rfl, Lib.hid ⟨HC1.out.keeps KXV.out (fun h => h), World.ownsRow_nil _ _ _ _, by have := HGB.out; omega⟩, Lib.hid (HK1.out.trans KXV.out (fun _ _ h => h)), HHB, HXV, Lib.hid (HZ1.out.keeps KXV.out (fun h => h)), Lib.hid (fun q h => by cases h), Lib.hid ((KXV.out.cell (World.block_lt_of_cell? _ _ HC0.out) (fun h => h)).trans HC0.out), Lib.hid ((KXV.out.cell (World.block_lt_of_cell? _ _ HCB.out) (fun h => h)).trans HCB.out)⟩
  case round =>
    obtain ⟨k, A, c, hk, rfl, HP, HK, HH, HV, HZZ, HQ, HBA, HBB⟩ := hrel
    have b3 : wr.cell? ⟨w.heap.size, 3, none⟩ = some (.slice RA m cm) := HH.out.cell 3
    by_cases hlt : k < m
    · obtain ⟨xs, hx⟩ : ∃ xs, R[k]? = some xs := ⟨_, List.getElem?_eq_getElem (by rw [HL.out]; exact hlt)⟩
      obtain ⟨ad, U, d, rfl, hb, hc, hU⟩ := rowAtV HR.out hx HK.out
      have x1 : wr.cell? ⟨X, 1, none⟩ = some (.func (.func 78) #[] #[.pointer (some ⟨B, 0, none⟩), .pointer (some ⟨B + 1, 0, none⟩)]) := HV.out.cell 1
      have hXl := HV.out.lt
      have hXG := HGB.out
      have hXB := HXB.out
      have hsz := HK.out.size
      have HTK := Lib.hid (show ((R.take k).map tv11).flatten ++ tv11 xs = ((R.take (k + 1)).map tv11).flatten by rw [List.take_add_one, hx]; simp)
      have nX : ¬ (X = G ∨ ob A = some X) := by
        rintro (h | h)
        · omega
        · have := HQ.out _ h; omega
      have nH : ¬ (w.heap.size = G ∨ ob A = some w.heap.size) := by
        rintro (h | h)
        · omega
        · have := HQ.out _ h; omega
      have nZ : ¬ (w.heap.size + 1 = G ∨ ob A = some (w.heap.size + 1)) := by
        rintro (h | h)
        · omega
        · have := HQ.out _ h; omega
      have nR : ¬ (ad.block = G ∨ ob A = some ad.block) := by
        rintro (h | h)
        · omega
        · have := HQ.out _ h; omega
      have n0 : ¬ (B = G ∨ ob A = some B) := by
        rintro (h | h)
        · omega
        · have := HQ.out _ h; omega
      have n1 : ¬ (B + 1 = G ∨ ob A = some (B + 1)) := by
        rintro (h | h)
        · omega
        · have := HQ.out _ h; omega
      have HS := Lib.hid (fun (w' : World) (kk : Keeps (fun i => i = G ∨ ob A = some i) wr w') => show w'.cell? ⟨X, 1, none⟩ = some (.func (.func 78) #[] #[.pointer (some ⟨B, 0, none⟩), .pointer (some ⟨B + 1, 0, none⟩)]) ∧ w'.cell? ⟨w.heap.size, 3, none⟩ = some (.slice (some ad) m cm) ∧ w'.cell? (ad.add k) = some (.slice U xs.length d) from ⟨(kk.cell hXl nX).trans x1, (kk.cell (World.block_lt_of_cell? _ _ b3) nH).trans b3, (kk.cell (by rw [blk_add]; omega) (by rw [blk_add]; exact nR)).trans hc⟩)
      have HA := Lib.hid (tAdd11 wr.drew w.heap.size G B A k c _ U xs.length d xs (HP.out.new ((Keeps.refl (fun _ => False) wr).drew)) (by omega) (by simpa using HBA.out) (by simpa using HBB.out) n0 n1 rfl (hU.keeps ((Keeps.refl (fun _ => False) wr).drew) (fun _ _ h => h)))
      have kk := (Keeps.refl (fun i => i = G ∨ ob A = some i) wr).drew
      clear hx hU x1 hXG
      go_wp2_with fail
      go_region_held3 (fun w' => w'.cell? ⟨X, 1, none⟩ = some (.func (.func 78) #[] #[.pointer (some ⟨B, 0, none⟩), .pointer (some ⟨B + 1, 0, none⟩)]) ∧ w'.cell? ⟨w.heap.size, 3, none⟩ = some (.slice (some ad) m cm) ∧ w'.cell? (ad.add k) = some (.slice U xs.length d)) (first | exact HS.out _ kk | exact HS.out _ k4) (first | (go_at_call 78; refine HA.out.mono ?_; rintro e w4 ⟨A4, c4, rfl, hP4, K4, hat4⟩; have k4 := kk.trans K4 (fun _ _ h => h)))
      all_goals
        go_wp2_with fail
        go_roundw
        case rel =>
          have hXG := HGB.out
          have kF := HK.out.trans k4 (S := fun _ => False) (fun i hi h => by
            rcases h with h | h
            · omega
            · have := HQ.out _ h; omega)
          refine ⟨k + 1, A4, c4, by omega, by go_num, ?_, Lib.hid kF, Lib.hid (HH.out.keeps k4 nH), Lib.hid (HV.out.keeps k4 nX), Lib.hid (HZZ.out.keeps k4 nZ), Lib.hid ?_, Lib.hid ((k4.cell (World.block_lt_of_cell? _ _ HBA.out) n0).trans HBA.out), Lib.hid ((k4.cell (World.block_lt_of_cell? _ _ HBB.out) n1).trans HBB.out)⟩
          · rw [← HTK.out]; exact Lib.hid hP4
          · intro q hq
            rcases hat4 with e | e
            · exact HQ.out q (e ▸ hq)
            · have := e q hq
              have h2 : wr.heap.size ≤ wr.drew.heap.size := kk.size
              omega
        case measure => (first | (simp [RowKit.intOf]; done) | (simp [RowKit.intOf]; omega))
    · have hkm : k = m := by omega
      subst hkm
      have z0 : wr.cell? ⟨X, 0, none⟩ = some (.iface 153 (.pointer (some ⟨G, 0, none⟩))) := HV.out.cell 0
      have y0 : wr.cell? ⟨w.heap.size + 1, 0, none⟩ = some (.nilIface) := HZZ.out.cell 0
      have f0 : wr.frozen? ⟨w.heap.size + 1, 0, none⟩ = false := HZZ.out.frozen 0
      have z1 : wr.cell? ⟨X, 1, none⟩ = some (.func (.func 78) #[] #[.pointer (some ⟨B, 0, none⟩), .pointer (some ⟨B + 1, 0, none⟩)]) := HV.out.cell 1
      have y1 : wr.cell? ⟨w.heap.size + 1, 1, none⟩ = some (.nilFunc) := HZZ.out.cell 1
      have f1 : wr.frozen? ⟨w.heap.size + 1, 1, none⟩ = false := HZZ.out.frozen 1
      have z2 : wr.cell? ⟨X, 2, none⟩ = some (.func (.func 79) #[] #[.pointer (some ⟨B + 2, 0, none⟩), .pointer (some ⟨B, 0, none⟩)]) := HV.out.cell 2
      have y2 : wr.cell? ⟨w.heap.size + 1, 2, none⟩ = some (.nilFunc) := HZZ.out.cell 2
      have f2 : wr.frozen? ⟨w.heap.size + 1, 2, none⟩ = false := HZZ.out.frozen 2
      have z3 : wr.cell? ⟨X, 3, none⟩ = some (.func (.func 80) #[] #[.pointer (some ⟨B + 1, 0, none⟩), .pointer (some ⟨B, 0, none⟩)]) := HV.out.cell 3
      have y3 : wr.cell? ⟨w.heap.size + 1, 3, none⟩ = some (.nilFunc) := HZZ.out.cell 3
      have f3 : wr.frozen? ⟨w.heap.size + 1, 3, none⟩ = false := HZZ.out.frozen 3
      have hlv := HZZ.out.lt
      have hnX : ¬ (X = w.heap.size + 1) := by have := HGB.out; have := HXB.out; omega
      go_wp2_with fail
      have r1 := ((((HZZ.out.put 0 (.iface 153 (.pointer (some ⟨G, 0, none⟩)))).put 1 (.func (.func 78) #[] #[.pointer (some ⟨B, 0, none⟩), .pointer (some ⟨B + 1, 0, none⟩)])).put 2 (.func (.func 79) #[] #[.pointer (some ⟨B + 2, 0, none⟩), .pointer (some ⟨B, 0, none⟩)])).put 3 (.func (.func 80) #[] #[.pointer (some ⟨B + 1, 0, none⟩), .pointer (some ⟨B, 0, none⟩)]))
      have hld := run_loadVar_row (P := Tryz.prog) _ (w.heap.size + 1) 39 39 _ (0, 0) _ r1 Tryz.underlying39 rfl infoTC
      have KS := (((((Keeps.refl (fun i => i = w.heap.size + 1) wr).setCell (p := ⟨w.heap.size + 1, 0, none⟩) (.inl rfl) (.iface 153 (.pointer (some ⟨G, 0, none⟩)))).setCell (p := ⟨w.heap.size + 1, 1, none⟩) (.inl rfl) (.func (.func 78) #[] #[.pointer (some ⟨B, 0, none⟩), .pointer (some ⟨B + 1, 0, none⟩)])).setCell (p := ⟨w.heap.size + 1, 2, none⟩) (.inl rfl) (.func (.func 79) #[] #[.pointer (some ⟨B + 2, 0, none⟩), .pointer (some ⟨B, 0, none⟩)])).setCell (p := ⟨w.heap.size + 1, 3, none⟩) (.inl rfl) (.func (.func 80) #[] #[.pointer (some ⟨B + 1, 0, none⟩), .pointer (some ⟨B, 0, none⟩)]))
      have hP := HP.out
      rw [List.take_of_length_le (by rw [HL.out]; exact Nat.le_refl _)] at hP
      have hXG := HGB.out
      have hXB := HXB.out
      exact bodyPost_ret (results_ct rfl _ ⟨w.heap.size + 1, 0, none⟩ _ _ rfl hld) rfl ⟨G, B, A, c, rfl, ⟨hP.blk.keeps KS (by omega), own_keeps hP.own KS (fun q hq h => by rw [ownBlock_slice] at hq; have := HQ.out q hq; omega), hP.lo⟩, HK.out.trans KS (fun i hi h => by omega)⟩
theorem iTEnc11 : (Tryz.prog.info? 153).map (fun i => (i.methods.find? (·.name == "EncodeColumn")).map (fun m => (m.path.toList.length, m.func))) = some (some (0, some (199, false))) := by kernel_rfl
theorem mTEnc11 {w : World} {g : Nat} {x : Value} (hW : Whole w g 155 #[x]) (fuel : Nat) : (method (fuel + 1) 153 (.pointer (some ⟨g, 0, none⟩)) "EncodeColumn").run Tryz.prog w = .ok (199, x) w := by
  obtain ⟨i, m, h1, h2, h3, h4⟩ := method_row iTEnc11
  exact method_val h1 h2 h3 h4 Tryz.underlying153 (by have h0 : w.cell? ⟨g, 0, none⟩ = some x := hW.cell 0; go_simp)
theorem fTEnc11 (args : Array Value) (w : World) : (callFunc 199 args).run Tryz.prog w = .ok (.enter 199 args) w := by kernel_rfl
/-- The bytes of a column of kind 11. -/
def tb11 (R : List (List Nat)) : List UInt8 := wbs4 (R.map fun xs : List Nat => (xs.getD 0 0, xs.getD 1 0, xs.getD 2 0, xs.getD 3 0))
set_option maxRecDepth 100000 in
set_option maxHeartbeats 2000000 in
theorem tce11 (w : World) (p tx : Value) (RA : Option Addr) (m cm : Nat) (R : List (List Nat)) (hl : R.length = m) (hR : RowsV w RA (R.map qw)) (hm : m ≤ 1000) (hw : ∀ xs ∈ R, ∀ x ∈ xs, x < 18446744073709551616) : Calls Tryz.prog 4 #[.agg #[.int .i64 11, p, tx, .slice RA m cm]] w fun e w' => EncRes w (tb11 R) e w' := by
  have HF := Lib.hid (fun w' (K : Keeps (fun _ => False) w w') => fil11 w' p tx RA m cm R hl (hR.keeps K) hm)
  have HL := Lib.hid hl
  have HW := Lib.hid hw
  have K0 := Lib.hid ((Keeps.refl (fun _ => False) w).alloc (.cells #[.int .i64 11, p, tx, .slice RA m cm] 29))
  clear hR hl hw
  go_enter Tryz.func4, Tryz.ntmps4
  go_wp2_with fail
  refine (HF.out _ K0.out).mono ?_
  rintro e w1 ⟨G, B, A, c, rfl, hC, K1⟩
  have HC := Lib.hid hC
  have HK1 := Lib.hid (K0.out.trans K1 (fun _ _ h => h))
  have hlo := hC.own.lt
  rw [ownBlock_slice] at hlo
  have HE := Lib.hid (fun W (kk : Keeps (fun _ => False) w1 W) => show Calls Tryz.prog 8 #[.func (.method "EncodeColumn") #[.iface 153 (.pointer (some ⟨G, 0, none⟩))] #[]] W fun e w' => EncRes W (tb11 R) e w' from by
    have K2 := (Keeps.refl (fun _ => False) W).alloc (.cells #[.slice none 0 0] 47)
    have hC1 := (hC.new kk).new K2
    refine encodedE W 153 _ _ 199 _ fTEnc11 (mTEnc11 hC1.blk _) ?_
    exact (encDecimal256 (bufW W) W.heap.size W.heap.size none 0 [] A m c (R.map fun xs : List Nat => (xs.getD 0 0, xs.getD 1 0, xs.getD 2 0, xs.getD 3 0)) (bufNew W (Nat.le_refl _)) (by simp) (by rw [List.length_map]; exact HL.out) (by omega) (by have h := Rd.own hC1.own; rw [show (R.map tv11).flatten = ((R.map fun xs : List Nat => (xs.getD 0 0, xs.getD 1 0, xs.getD 2 0, xs.getD 3 0)).map wc4).flatten from by rw [List.map_map]; rfl] at h; exact h) (fun q hq => ⟨by have := (hlo q hq).2; have := kk.size; omega, fun h => by cases h⟩)).mono fun e w' h => h)
  clear hC K1 hlo
  go_wp2_with fail
  refine (HE.out _ ((Keeps.refl (fun _ => False) w1).alloc _)).mono ?_
  rintro e w3 ⟨A3, c3, rfl, ho, K3⟩
  go_wp2_with fail
  go_ret
  have K4 := HK1.out.alloc (.cells #[.iface 153 (.pointer (some ⟨G, 0, none⟩)), .func (.func 78) #[] #[.pointer (some ⟨B, 0, none⟩), .pointer (some ⟨B + 1, 0, none⟩)], .func (.func 79) #[] #[.pointer (some ⟨B + 2, 0, none⟩), .pointer (some ⟨B, 0, none⟩)], .func (.func 80) #[] #[.pointer (some ⟨B + 1, 0, none⟩), .pointer (some ⟨B, 0, none⟩)]] 39)
  exact ⟨A3, c3, rfl, own_low ho K4.size, K4.trans K3 (fun _ _ h => h)⟩
end Go.Proofs.YtmdmccjmmljbkaaGreat
