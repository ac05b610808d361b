/- Floats and wide numbers that a reader reads, whatever the bytes are. Conditions: those of the reader. -/
import Derived.Test.YthfoleapdmpdfaaDoorRh
import Derived.Deep.RegionWith
import Derived.Deep.RegionHeld3
namespace Go.Proofs.YthfoleapdmpdfaaDoor
open Go.RowKit Go.Lib
set_option linter.unusedVariables false
theorem results_ct {P : Program} {fn : Func} {t u : Tmp} {ty : TypeId} (h : fn.results = #[.cell t ty, .tmp u]) (tmps : Array Value) (p : Addr) (w : World) (x : Value) (hp : tmps.getD t undef = .pointer (some p)) (hx : (loadVar ty p).run P w = .ok x w) :
    (results fn tmps).run P w = .ok (.tuple #[x, tmps.getD u undef]) w := by
  have hp2 : tmps[t]?.getD undef = .pointer (some p) := by simpa using hp
  simp [results, h, hp2, asAddr, hx]
theorem ext32f (n : Int) (w : World) : (callFunc 59 #[.int .u32 n]).run Tryd.prog w = .ok (.value (.float .f32 n.toNat)) w := by
  rw [run_callFunc_extern (e := Extern.MathFloatBits.float32frombits) Tryd.func59 (by kernel_rfl) (by kernel_rfl) (by kernel_rfl) (by kernel_rfl)]
  rfl
theorem ext32b (n : Nat) (w : World) : (callFunc 75 #[.float .f32 n]).run Tryd.prog w = .ok (.value (.int .u32 n)) w := by
  rw [run_callFunc_extern (e := Extern.MathFloatBits.float32bits) Tryd.func75 (by kernel_rfl) (by kernel_rfl) (by kernel_rfl) (by kernel_rfl)]
  rfl
theorem ext64f (n : Int) (w : World) : (callFunc 61 #[.int .u64 n]).run Tryd.prog w = .ok (.value (.float .f64 n.toNat)) w := by
  rw [run_callFunc_extern (e := Extern.MathFloatBits.float64frombits) Tryd.func61 (by kernel_rfl) (by kernel_rfl) (by kernel_rfl) (by kernel_rfl)]
  rfl
theorem ext64b (n : Nat) (w : World) : (callFunc 77 #[.float .f64 n]).run Tryd.prog w = .ok (.value (.int .u64 n)) w := by
  rw [run_callFunc_extern (e := Extern.MathFloatBits.float64bits) Tryd.func77 (by kernel_rfl) (by kernel_rfl) (by kernel_rfl) (by kernel_rfl)]
  rfl
def fFloat32 : Nat → Value := fun x => .float .f32 x
set_option maxRecDepth 100000 in
set_option maxHeartbeats 1000000 in
theorem rwFloat32 (w : World) (base rb bb : Nat) (D R : Option Nat) (d : List UInt8) (hR : RdrOn w base rb bb D R d) : Calls Tryd.prog 74 #[.pointer (some ⟨rb, 0, none⟩)] w (RdStep w base rb bb D R (.float .f32 0) (fixN 4 fFloat32 d)) := by
  have HU := Lib.hid (rwUInt32 w base rb bb D R d hR)
  clear hR
  go_enter Tryd.func74, Tryd.ntmps74
  go_wp2_with fail
  refine HU.out.mono ?_
  rintro e w1 (⟨v, l, h0, rfl, hG⟩ | ⟨v, l, h0, rfl, ⟨a, rfl⟩, hG⟩)
  · obtain ⟨x, hx, hM⟩ : ∃ x : Nat, v = fUInt32 x ∧ fixN 4 fFloat32 d = some (.float .f32 x, l) := by
      unfold fixN at h0 ⊢
      split at h0
      · cases h0
      · rename_i hd
        injection h0 with h0
        injection h0 with h1 h2
        exact ⟨_, h1.symm, by rw [if_neg hd, h2]; rfl⟩
    rw [show fUInt32 x = .int .u32 (x : Int) from rfl] at hx
    subst hx
    have HM := Lib.hid hM
    have hext := ext32f (x : Int)
    rw [Int.toNat_natCast] at hext
    clear h0 hM
    go_wp2_with fail
    go_ret2
    exact .inl ⟨_, l, HM.out, rfl, hG⟩
  · have hM : fixN 4 fFloat32 d = none := by
      unfold fixN at h0 ⊢
      split at h0
      · rename_i hd
        rw [if_pos hd]
      · cases h0
    go_wp2_with (first | (go_at_call 68; go_in))
    exact bodyPost_ret (results_tmp2 rfl _ _ _) rfl (.inr ⟨_, l, hM, rfl, ⟨_, rfl⟩, hG.after ((Keeps.refl (fun _ => False) _).alloc _)⟩)
def fFloat64 : Nat → Value := fun x => .float .f64 x
set_option maxRecDepth 100000 in
set_option maxHeartbeats 1000000 in
theorem rwFloat64 (w : World) (base rb bb : Nat) (D R : Option Nat) (d : List UInt8) (hR : RdrOn w base rb bb D R d) : Calls Tryd.prog 76 #[.pointer (some ⟨rb, 0, none⟩)] w (RdStep w base rb bb D R (.float .f64 0) (fixN 8 fFloat64 d)) := by
  have HU := Lib.hid (rwUInt64 w base rb bb D R d hR)
  clear hR
  go_enter Tryd.func76, Tryd.ntmps76
  go_wp2_with fail
  refine HU.out.mono ?_
  rintro e w1 (⟨v, l, h0, rfl, hG⟩ | ⟨v, l, h0, rfl, ⟨a, rfl⟩, hG⟩)
  · obtain ⟨x, hx, hM⟩ : ∃ x : Nat, v = fUInt64 x ∧ fixN 8 fFloat64 d = some (.float .f64 x, l) := by
      unfold fixN at h0 ⊢
      split at h0
      · cases h0
      · rename_i hd
        injection h0 with h0
        injection h0 with h1 h2
        exact ⟨_, h1.symm, by rw [if_neg hd, h2]; rfl⟩
    rw [show fUInt64 x = .int .u64 (x : Int) from rfl] at hx
    subst hx
    have HM := Lib.hid hM
    have hext := ext64f (x : Int)
    rw [Int.toNat_natCast] at hext
    clear h0 hM
    go_wp2_with fail
    go_ret2
    exact .inl ⟨_, l, HM.out, rfl, hG⟩
  · have hM : fixN 8 fFloat64 d = none := by
      unfold fixN at h0 ⊢
      split at h0
      · rename_i hd
        rw [if_pos hd]
      · cases h0
    go_wp2_with (first | (go_at_call 68; go_in))
    exact bodyPost_ret (results_tmp2 rfl _ _ _) rfl (.inr ⟨_, l, hM, rfl, ⟨_, rfl⟩, hG.after ((Keeps.refl (fun _ => False) _).alloc _)⟩)
theorem len16 {l : List UInt8} (h : l.length = 16) : ∃ p q, l = p ++ q ∧ p.length = 8 ∧ q.length = 8 := ⟨l.take 8, l.drop 8, (List.take_append_drop 8 l).symm, by rw [List.length_take]; omega, by rw [List.length_drop]; omega⟩
theorem infoW : (Tryd.prog.info? 116).map (·.size) = some 2 := by kernel_rfl
theorem infoI : (Tryd.prog.info? 114).map (·.size) = some 2 := by kernel_rfl
set_option maxRecDepth 100000 in
set_option maxHeartbeats 4000000 in
theorem binU128 (w : World) (g k : Nat) (l : List UInt8) (hl : l.length = 16) (hR : Rd w 1 (some ⟨g, 0, none⟩) 16 (Lib.byteCells l)) (hk : 16 ≤ k) : Calls Tryd.prog 96 #[.slice (some ⟨g, 0, none⟩) 16 k] w fun e w' => e = .returned (.agg #[.int .u64 (leNat (l.take 8) : Int), .int .u64 (leNat (l.drop 8) : Int)]) ∧ Keeps (fun _ => False) w w' := by
  obtain ⟨p, q, rfl, hp, hq⟩ := len16 hl
  obtain ⟨b0, b1, b2, b3, b4, b5, b6, b7, rfl⟩ := len8 hp
  obtain ⟨a0, a1, a2, a3, a4, a5, a6, a7, rfl⟩ := len8 hq
  have HC := Lib.hid (fun (w' : World) (kk : Keeps (fun _ => False) w w') (j : Nat) (u : Value) (h : (Lib.byteCells ([b0, b1, b2, b3, b4, b5, b6, b7] ++ [a0, a1, a2, a3, a4, a5, a6, a7]))[j]? = some u) => (by
    obtain ⟨ad, h1, h2, h3⟩ := (hR.keeps kk (fun _ _ h => h)).2 (by omega)
    injection h1 with h1
    subst h1
    have := h3 j u h
    rw [add_lit', Nat.zero_add] at this
    exact this : w'.cell? ⟨g, j, none⟩ = some u))
  have HA := Lib.hid (fun (w' : World) (kk : Keeps (fun _ => False) w w') => leGet64 w' g 0 8 k b0 b1 b2 b3 b4 b5 b6 b7 (by omega) (HC.out _ kk 0 _ rfl) (HC.out _ kk 1 _ rfl) (HC.out _ kk 2 _ rfl) (HC.out _ kk 3 _ rfl) (HC.out _ kk 4 _ rfl) (HC.out _ kk 5 _ rfl) (HC.out _ kk 6 _ rfl) (HC.out _ kk 7 _ rfl))
  have HB := Lib.hid (fun (w' : World) (kk : Keeps (fun _ => False) w w') => leGet64 w' g 8 8 (k - 8) a0 a1 a2 a3 a4 a5 a6 a7 (by omega) (HC.out _ kk 8 _ rfl) (HC.out _ kk 9 _ rfl) (HC.out _ kk 10 _ rfl) (HC.out _ kk 11 _ rfl) (HC.out _ kk 12 _ rfl) (HC.out _ kk 13 _ rfl) (HC.out _ kk 14 _ rfl) (HC.out _ kk 15 _ rfl))
  have HV := Lib.hid (show leNat (List.take 8 ([b0, b1, b2, b3, b4, b5, b6, b7] ++ [a0, a1, a2, a3, a4, a5, a6, a7])) = leNat [b0, b1, b2, b3, b4, b5, b6, b7] ∧ leNat (List.drop 8 ([b0, b1, b2, b3, b4, b5, b6, b7] ++ [a0, a1, a2, a3, a4, a5, a6, a7])) = leNat [a0, a1, a2, a3, a4, a5, a6, a7] from ⟨rfl, rfl⟩)
  rw [HV.out.1, HV.out.2]
  generalize leNat [b0, b1, b2, b3, b4, b5, b6, b7] = x at *
  generalize leNat [a0, a1, a2, a3, a4, a5, a6, a7] = y at *
  clear HC HV
  have k16 : (16 : Int) ≤ (k : Int) := by omega
  have k8 : (8 : Int) ≤ (k : Int) := by omega
  have k8n : ¬ k = 8 := by omega
  clear hl hp hq hR hk
  go_enter Tryd.func96, Tryd.ntmps96
  go_wp2_with fail
  have hs0 : Keeps (fun _ => False) w (w.alloc (.cells #[.int .u64 0, .int .u64 0] 116)).drew := ((Keeps.refl _ _).alloc _).drew
  have hwn := Whole.new w 116 #[.int .u64 0, .int .u64 0]
  have hwd := hwn.keeps ((Keeps.refl (fun _ => False) _).drew) (fun h => h)
  go_region_held3 (fun w' => Keeps (fun _ => False) w w') (first | exact hs0 | exact hs1 | exact hs2 | exact (hs2.setCell (p := ⟨w.heap.size, 0, none⟩) (.inr (Nat.le_refl _)) _).setCell (p := ⟨w.heap.size, 1, none⟩) (.inr (Nat.le_refl _)) _) (first
    | (go_at_call 73; (with_reducible refine (HA.out _ hs0).mono ?_); rintro e w1 ⟨rfl, K1⟩; have hs1 := hs0.trans K1 (fun _ _ h => h))
    | (go_at_call 73; (with_reducible refine (HB.out _ hs1).mono ?_); rintro e w2 ⟨rfl, K2⟩; have hs2 := hs1.trans K2 (fun _ _ h => h); have hw2 := (hwd.keeps K1 (fun h => h)).keeps K2 (fun h => h); have q0 : w2.cell? ⟨w.heap.size, 0, none⟩ = some (.int .u64 0) := hw2.cell 0; have q1 : w2.cell? ⟨w.heap.size, 1, none⟩ = some (.int .u64 0) := hw2.cell 1; have z0 : w2.frozen? ⟨w.heap.size, 0, none⟩ = false := hw2.frozen 0; have z1 : w2.frozen? ⟨w.heap.size, 1, none⟩ = false := hw2.frozen 1; have ql := hw2.lt))
  have r1 := (hw2.put 0 (.int .u64 (x : Int))).put 1 (.int .u64 (y : Int))
  have hld := run_loadVar_row (P := Tryd.prog) _ w.heap.size 116 116 _ (0, 0) _ r1 Tryd.underlying116 rfl infoW
  have kf := (hs2.setCell (p := ⟨w.heap.size, 0, none⟩) (.inr (Nat.le_refl _)) (.int .u64 (x : Int))).setCell (p := ⟨w.heap.size, 1, none⟩) (.inr (Nat.le_refl _)) (.int .u64 (y : Int))
  go_wp2_with fail
  exact bodyPost_ret (results_cell1 rfl _ ⟨w.heap.size, 0, none⟩ _ _ rfl hld) rfl ⟨rfl, kf⟩
def fixW (d : List UInt8) : Option (Value × List UInt8) := if d.length < 16 then none else some (.agg #[.int .u64 (leNat (d.take 8) : Int), .int .u64 (leNat ((d.drop 8).take 8) : Int)], d.drop 16)
set_option maxRecDepth 100000 in
set_option maxHeartbeats 4000000 in
theorem rwUInt128 (w : World) (base rb bb : Nat) (D R : Option Nat) (d : List UInt8) (hR : RdrOn w base rb bb D R d) (hD0 : ∀ i, D = some i → i < w.heap.size) : Calls Tryd.prog 79 #[.pointer (some ⟨rb, 0, none⟩)] w (RdStep w base rb bb D R (.agg #[.int .u64 0, .int .u64 0]) (fixW d)) := by
  have hwn := Whole.new w 116 #[.int .u64 0, .int .u64 0]
  have K0 := (Keeps.refl (fun _ => False) w).alloc (.cells #[.int .u64 0, .int .u64 0] 116)
  have HR0 := Lib.hid hR
  have HD := Lib.hid hD0
  clear hD0
  have HF := Lib.hid hR.facts
  have hnn : ¬ (w.heap.size = rb ∨ w.heap.size = bb ∨ R = some w.heap.size) := by
    obtain ⟨f1, f2, f3, f4, f5⟩ := hR.facts
    rintro (h | h | h)
    · omega
    · omega
    · have := (f5 _ h).2; omega
  have HN := Lib.hid hnn
  by_cases hc : 16 ≤ d.length
  · have hW : fixW d = some (.agg #[.int .u64 (leNat (d.take 8) : Int), .int .u64 (leNat ((d.drop 8).take 8) : Int)], d.drop 16) := if_neg (by omega)
    obtain ⟨A, c, C, m, k, q, hA, hD, rfl⟩ := hR.new K0
    have hxl : (d.take 16).length = 16 := by rw [List.length_take]; omega
    have HRF := Lib.hid (readFull_ok _ base rb bb A c d C m k 16 q hA hc (by omega))
    have HW := Lib.hid hW
    clear hA hW hnn hR
    go_enter Tryd.func79, Tryd.ntmps79
    go_wp2_with fail
    refine HRF.out.mono ?_
    rintro e w2 ⟨A2, c2, C2, k2, rfl, hR2, hK2, hA2, hC2⟩
    have e1 : w2.cell? ⟨rb, 1, none⟩ = some (.pointer (some ⟨bb, 0, none⟩)) := hR2.rdr.cell 1
    have e3 : w2.cell? ⟨bb, 0, none⟩ = some (.slice C2 16 k2) := hR2.blk.cell 0
    have e4 := hR2.rdr.lt
    have e5 := hR2.blk.lt
    obtain ⟨g, cap, hv, hgl, hgh⟩ := hR2.own.form (by omega)
    injection hv with hv1 hv2 hv3
    subst hv1 hv3
    have hcp := own_cap hR2.own
    have HB := Lib.hid (binU128 w2 g k2 (d.take 16) hxl (Rd.own hR2.own) hcp)
    have hw2 := hwn.keeps hK2 HN.out
    have HG := Lib.hid (show RdrGo (w.alloc (.cells #[.int .u64 0, .int .u64 0] 116)) w2 base rb bb D (ob C) (d.drop 16) from ⟨⟨_, ⟨A2, c2, _, 16, k2, _, hR2, by rw [hA2]; exact hD, rfl⟩, hC2⟩, hK2⟩)
    have HW2 := Lib.hid hw2
    clear hv2 hR2 hK2 hA2 hC2 hD hgl hgh hcp hw2
    go_wp2_with fail
    refine HB.out.mono ?_
    rintro e w3 ⟨rfl, K3⟩
    have hw3 := HW2.out.keeps K3 (fun h => h)
    have q0 : w3.cell? ⟨w.heap.size, 0, none⟩ = some (.int .u64 0) := hw3.cell 0
    have q1 : w3.cell? ⟨w.heap.size, 1, none⟩ = some (.int .u64 0) := hw3.cell 1
    have z0 : w3.frozen? ⟨w.heap.size, 0, none⟩ = false := hw3.frozen 0
    have z1 : w3.frozen? ⟨w.heap.size, 1, none⟩ = false := hw3.frozen 1
    have ql := hw3.lt
    have HV := Lib.hid (show List.take 8 (d.take 16) = d.take 8 ∧ List.drop 8 (d.take 16) = (d.drop 8).take 8 from ⟨by rw [List.take_take]; rfl, by rw [List.drop_take]⟩)
    rw [HV.out.1, HV.out.2]
    have HG3 := Lib.hid (HG.out.after K3)
    clear K3
    obtain ⟨x, hx⟩ : ∃ x, x = leNat (d.take 8) := ⟨_, rfl⟩
    obtain ⟨y, hy⟩ : ∃ y, y = leNat ((d.drop 8).take 8) := ⟨_, rfl⟩
    have HXY := Lib.hid (And.intro hx hy)
    rw [← hx, ← hy]
    clear hx hy
    go_wp2_with fail
    have r1 := (hw3.put 0 (.int .u64 (x : Int))).put 1 (.int .u64 (y : Int))
    have hld := run_loadVar_row (P := Tryd.prog) _ w.heap.size 116 116 _ (0, 0) _ r1 Tryd.underlying116 rfl infoW
    have k5 := ((Keeps.refl (fun i => w.heap.size ≤ i ∧ i < (w.alloc (.cells #[.int .u64 0, .int .u64 0] 116)).heap.size) w3).setCell (p := ⟨w.heap.size, 0, none⟩) (.inl ⟨Nat.le_refl _, by simp⟩) (.int .u64 (x : Int))).setCell (p := ⟨w.heap.size, 1, none⟩) (.inl ⟨Nat.le_refl _, by simp⟩) (.int .u64 (y : Int))
    refine bodyPost_ret (results_ct rfl _ ⟨w.heap.size, 0, none⟩ _ _ rfl hld) rfl (.inl ⟨_, _, HW.out, by rw [← HXY.out.1, ← HXY.out.2]; rfl, go_put HR0.out K0 HG3.out k5 HD.out⟩)
  · have HRF := Lib.hid (readFull_err _ base rb bb D R d 16 (hR.new K0) (by omega))
    have HW := Lib.hid (show fixW d = none from if_pos (by omega))
    have HW2 := Lib.hid hwn
    clear hnn hR hwn
    go_enter Tryd.func79, Tryd.ntmps79
    go_wp2_with fail
    refine HRF.out.mono ?_
    rintro e w2 ⟨v, rfl, ⟨a, rfl⟩, hG⟩
    have hw3 := HW2.out.keeps hG.keeps HN.out
    have q0 : w2.cell? ⟨w.heap.size, 0, none⟩ = some (.int .u64 0) := hw3.cell 0
    have q1 : w2.cell? ⟨w.heap.size, 1, none⟩ = some (.int .u64 0) := hw3.cell 1
    have z0 : w2.frozen? ⟨w.heap.size, 0, none⟩ = false := hw3.frozen 0
    have z1 : w2.frozen? ⟨w.heap.size, 1, none⟩ = false := hw3.frozen 1
    have ql := hw3.lt
    have HG := Lib.hid hG
    clear hG
    go_wp2_with (first | (go_at_call 68; go_in))
    have r1 := fun o => ((hw3.put 0 (.int .u64 0)).put 1 (.int .u64 0)).alloc o
    have hld := fun o => run_loadVar_row (P := Tryd.prog) _ w.heap.size 116 116 _ (0, 0) _ (r1 o) Tryd.underlying116 rfl infoW
    have k5 := fun o => (((Keeps.refl (fun i => w.heap.size ≤ i ∧ i < (w.alloc (.cells #[.int .u64 0, .int .u64 0] 116)).heap.size) w2).setCell (p := ⟨w.heap.size, 0, none⟩) (.inl ⟨Nat.le_refl _, by simp⟩) (.int .u64 0)).setCell (p := ⟨w.heap.size, 1, none⟩) (.inl ⟨Nat.le_refl _, by simp⟩) (.int .u64 0)).alloc o
    exact bodyPost_ret (results_ct rfl _ ⟨w.heap.size, 0, none⟩ _ _ rfl (hld _)) rfl (.inr ⟨_, [], HW.out, rfl, ⟨_, rfl⟩, go_put HR0.out K0 HG.out (k5 _) HD.out⟩)
set_option maxRecDepth 100000 in
set_option maxHeartbeats 4000000 in
theorem rwInt128 (w : World) (base rb bb : Nat) (D R : Option Nat) (d : List UInt8) (hR : RdrOn w base rb bb D R d) (hD0 : ∀ i, D = some i → i < w.heap.size) : Calls Tryd.prog 78 #[.pointer (some ⟨rb, 0, none⟩)] w (RdStep w base rb bb D R (.agg #[.int .u64 0, .int .u64 0]) (fixW d)) := by
  have hwn := Whole.new w 114 #[.int .u64 0, .int .u64 0]
  have K0 := (Keeps.refl (fun _ => False) w).alloc (.cells #[.int .u64 0, .int .u64 0] 114)
  have HU := Lib.hid (rwUInt128 _ base rb bb D R d (hR.new K0) (fun i hi => Nat.lt_of_lt_of_le (hD0 i hi) K0.size))
  have hnn : ¬ (w.heap.size = rb ∨ w.heap.size = bb ∨ R = some w.heap.size) := own_new hR _ (.inr (.inr (.inr rfl)))
  have HR0 := Lib.hid hR
  have HD := Lib.hid hD0
  have HN := Lib.hid hnn
  have HW2 := Lib.hid hwn
  clear hwn hnn hD0 hR
  go_enter Tryd.func78, Tryd.ntmps78
  go_wp2_with fail
  refine HU.out.mono ?_
  rintro e w2 (⟨v, l, ho, rfl, hG⟩ | ⟨v, l, ho, rfl, ⟨a, rfl⟩, hG⟩)
  · obtain ⟨x, y, hv⟩ : ∃ x y : Int, v = .agg #[.int .u64 x, .int .u64 y] := by
      unfold fixW at ho
      split at ho
      · cases ho
      · injection ho with ho
        injection ho with h1 h2
        exact ⟨_, _, h1.symm⟩
    subst hv
    have HO := Lib.hid ho
    have HG := Lib.hid hG
    have hw3 := HW2.out.keeps hG.keeps HN.out
    have q0 : w2.cell? ⟨w.heap.size, 0, none⟩ = some (.int .u64 0) := hw3.cell 0
    have q1 : w2.cell? ⟨w.heap.size, 1, none⟩ = some (.int .u64 0) := hw3.cell 1
    have z0 : w2.frozen? ⟨w.heap.size, 0, none⟩ = false := hw3.frozen 0
    have z1 : w2.frozen? ⟨w.heap.size, 1, none⟩ = false := hw3.frozen 1
    have ql := hw3.lt
    clear hG ho
    go_wp2_with fail
    have r1 := fun o => ((hw3.put 0 (.int .u64 x)).put 1 (.int .u64 y)).alloc o
    have hld := fun o => run_loadVar_row (P := Tryd.prog) _ w.heap.size 114 114 _ (0, 0) _ (r1 o) Tryd.underlying114 rfl infoI
    have k5 := fun o => (((Keeps.refl (fun i => w.heap.size ≤ i ∧ i < (w.alloc (.cells #[.int .u64 0, .int .u64 0] 114)).heap.size) w2).setCell (p := ⟨w.heap.size, 0, none⟩) (.inl ⟨Nat.le_refl _, by simp⟩) (.int .u64 x)).setCell (p := ⟨w.heap.size, 1, none⟩) (.inl ⟨Nat.le_refl _, by simp⟩) (.int .u64 y)).alloc o
    exact bodyPost_ret (results_ct rfl _ ⟨w.heap.size, 0, none⟩ _ _ rfl (hld _)) rfl (.inl ⟨_, l, HO.out, rfl, go_put HR0.out K0 HG.out (k5 _) HD.out⟩)
  · have HO := Lib.hid ho
    have HG := Lib.hid hG
    have hw3 := HW2.out.keeps hG.keeps HN.out
    have q0 : w2.cell? ⟨w.heap.size, 0, none⟩ = some (.int .u64 0) := hw3.cell 0
    have q1 : w2.cell? ⟨w.heap.size, 1, none⟩ = some (.int .u64 0) := hw3.cell 1
    have z0 : w2.frozen? ⟨w.heap.size, 0, none⟩ = false := hw3.frozen 0
    have z1 : w2.frozen? ⟨w.heap.size, 1, none⟩ = false := hw3.frozen 1
    have ql := hw3.lt
    clear hG ho
    go_wp2_with fail
    have r1 := fun o => ((hw3.put 0 (.int .u64 0)).put 1 (.int .u64 0)).alloc o
    have hld := fun o => run_loadVar_row (P := Tryd.prog) _ w.heap.size 114 114 _ (0, 0) _ (r1 o) Tryd.underlying114 rfl infoI
    have k5 := fun o => (((Keeps.refl (fun i => w.heap.size ≤ i ∧ i < (w.alloc (.cells #[.int .u64 0, .int .u64 0] 114)).heap.size) w2).setCell (p := ⟨w.heap.size, 0, none⟩) (.inl ⟨Nat.le_refl _, by simp⟩) (.int .u64 0)).setCell (p := ⟨w.heap.size, 1, none⟩) (.inl ⟨Nat.le_refl _, by simp⟩) (.int .u64 0)).alloc o
    exact bodyPost_ret (results_ct rfl _ ⟨w.heap.size, 0, none⟩ _ _ rfl (hld _)) rfl (.inr ⟨_, l, HO.out, rfl, ⟨_, rfl⟩, go_put HR0.out K0 HG.out (k5 _) HD.out⟩)
end Go.Proofs.YthfoleapdmpdfaaDoor
