/- The specification reads varints. Conditions: none but that the bytes are there. -/
import Derived.Test.YthfoleapdmpdfaaDoorPsB
namespace Go.Proofs.YthfoleapdmpdfaaDoor
open Go.RowKit Go.Lib
set_option linter.unusedVariables false
set_option maxRecDepth 100000 in
set_option maxHeartbeats 4000000 in
theorem prFixedShort (w : World) (A : Option Addr) (c : Nat) (n : Nat) (K : Nat) (hK : K ≤ 16) (hl : n < K) :
    Calls Tryd.prog 35 #[.slice A n c, .int .i64 K] w fun e w' => e = .returned (.agg #[.int .u64 0, .int .u64 0, .slice none 0 0, .bool true]) ∧ Keeps (fun _ => False) w w' := by
  have hw0 := Whole.new w 34 #[.int .u64 0, .int .u64 0, .slice none 0 0, .bool false]
  have h0 := hw0.alloc (.cells #[.int .u64 0, .int .u64 0, .slice none 0 0, .bool true] 34)
  have K0 := ((Keeps.refl (fun _ => False) w).alloc (.cells #[.int .u64 0, .int .u64 0, .slice none 0 0, .bool false] 34)).alloc (.cells #[.int .u64 0, .int .u64 0, .slice none 0 0, .bool true] 34)
  have hw1 := Whole.new (w.alloc (.cells #[.int .u64 0, .int .u64 0, .slice none 0 0, .bool false] 34)) 34 #[.int .u64 0, .int .u64 0, .slice none 0 0, .bool true]
  rw [World.size_alloc] at hw1
  have hns : (n : Int) < (K : Int) := by omega
  have hk0 : (0 : Int) < (K : Int) := by omega
  go_enter Tryd.func35, Tryd.ntmps35
  go_wp2_with fail
  go_loopw [6] (fun i wr => i = .int .i64 0 ∧ Hid (Whole wr (w.heap.size + 1) 34 #[.int .u64 0, .int .u64 0, .slice none 0 0, .bool true]) ∧ Hid (Whole wr w.heap.size 34 #[.int .u64 0, .int .u64 0, .slice none 0 0, .bool false]) ∧ Hid (Keeps (fun _ => False) w wr)) (fun i _ => 0)
  case atStart => exact ⟨rfl, Lib.hid hw1, Lib.hid h0, Lib.hid K0⟩
  case round =>
    obtain ⟨rfl, H1, H0, HKK⟩ := hrel
    clear hw0 hw1 h0 K0
    have h1 := H1.out
    have h0 := H0.out
    have a0 : wr.cell? ⟨w.heap.size + 1, 0, none⟩ = some (.int .u64 0) := h1.cell 0
    have a1 : wr.cell? ⟨w.heap.size + 1, 1, none⟩ = some (.int .u64 0) := h1.cell 1
    have a2 : wr.cell? ⟨w.heap.size + 1, 2, none⟩ = some (.slice none 0 0) := h1.cell 2
    have a3 : wr.cell? ⟨w.heap.size + 1, 3, none⟩ = some (.bool true) := h1.cell 3
    have al := h1.lt
    have b0 : wr.cell? ⟨w.heap.size, 0, none⟩ = some (.int .u64 0) := h0.cell 0
    have bz0 : wr.frozen? ⟨w.heap.size, 0, none⟩ = false := h0.frozen 0
    have b1 : wr.cell? ⟨w.heap.size, 1, none⟩ = some (.int .u64 0) := h0.cell 1
    have bz1 : wr.frozen? ⟨w.heap.size, 1, none⟩ = false := h0.frozen 1
    have b2 : wr.cell? ⟨w.heap.size, 2, none⟩ = some (.slice none 0 0) := h0.cell 2
    have bz2 : wr.frozen? ⟨w.heap.size, 2, none⟩ = false := h0.frozen 2
    have b3 : wr.cell? ⟨w.heap.size, 3, none⟩ = some (.bool false) := h0.cell 3
    have bz3 : wr.frozen? ⟨w.heap.size, 3, none⟩ = false := h0.frozen 3
    have bl := h0.lt
    go_wp2_with fail
    have r1 := ((((h0.put 0 (.int .u64 0)).put 1 (.int .u64 0)).put 2 (.slice none 0 0)).put 3 (.bool true))
    have hld := run_loadVar_row (P := Tryd.prog) _ w.heap.size 34 34 _ (0, 0) _ r1 Tryd.underlying34 rfl infoGot
    have kn := ((((HKK.out.setCell (p := ⟨w.heap.size, 0, none⟩) (.inr (Nat.le_refl _)) (.int .u64 0)).setCell (p := ⟨w.heap.size, 1, none⟩) (.inr (Nat.le_refl _)) (.int .u64 0)).setCell (p := ⟨w.heap.size, 2, none⟩) (.inr (Nat.le_refl _)) (.slice none 0 0)).setCell (p := ⟨w.heap.size, 3, none⟩) (.inr (Nat.le_refl _)) (.bool true))
    exact bodyPost_ret (results_cell1 rfl _ ⟨w.heap.size, 0, none⟩ _ _ rfl hld) rfl ⟨rfl, kn⟩
theorem and127s (x : Nat) (h1 : x < 128) : IntKind.u64.wrap (Go.bits .and .u8 (x : Int) 127) = (x : Int) := by
  rw [u8_and127 _ (by omega) (by omega), wraps_u64 _ (by omega) (by show _ < (18446744073709551616 : Int); omega)]
  omega
/-- What spec.prVar answers. -/
def VarR (d : List UInt8) (e : Ending) : Prop :=
  (∃ x l, uvGo 10 0 0 d = some (x, l) ∧ l.length ≤ d.length ∧ e = .returned (.tuple #[.agg #[.int .u64 (x : Int), .int .u64 0, .slice none 0 0, .bool false], .int .i64 ((d.length - l.length : Nat) : Int)])) ∨
  (uvGo 10 0 0 d = none ∧ e = .returned (.tuple #[.agg #[.int .u64 0, .int .u64 0, .slice none 0 0, .bool true], .int .i64 0]))
set_option maxRecDepth 100000 in
set_option maxHeartbeats 4000000 in
theorem prVarOk (w : World) (A : Option Addr) (c : Nat) (d : List UInt8) (hdl : d.length ≤ 1000) (hR : Rd w 1 A d.length (Lib.byteCells d)) :
    Calls Tryd.prog 36 #[.slice A d.length c] w fun e w' => VarR d e ∧ Keeps (fun _ => False) w w' := by
  have hw0 := Whole.new w 34 #[.int .u64 0, .int .u64 0, .slice none 0 0, .bool false]
  have K0 := (Keeps.refl (fun _ => False) w).alloc (.cells #[.int .u64 0, .int .u64 0, .slice none 0 0, .bool false] 34)
  have HR := Lib.hid hR
  have HL := Lib.hid hdl
  clear hR hdl
  obtain ⟨n, hn⟩ : ∃ n, n = d.length := ⟨_, rfl⟩
  have HNN := Lib.hid hn
  rw [← hn]
  clear hn
  go_enter Tryd.func36, Tryd.ntmps36
  go_wp2_with fail
  go_loopw [4, 5] (fun x i wr => ∃ (k acc : Nat), k ≤ n ∧ k ≤ 10 ∧ x = .int .u64 acc ∧ i = .int .i64 k ∧ Hid (acc < 2 ^ (7 * k)) ∧ Hid (uvGo 10 0 0 d = uvGo (10 - k) k acc (d.drop k)) ∧ Hid (Whole wr w.heap.size 34 #[.int .u64 0, .int .u64 0, .slice none 0 0, .bool false]) ∧ Hid (Keeps (fun _ => False) w wr)) (fun _ i _ => n - (RowKit.intOf i).toNat)
  case atStart => exact ⟨0, 0, Nat.zero_le _, by omega, rfl, rfl, Lib.hid (by simp), Lib.hid rfl, Lib.hid hw0, Lib.hid K0⟩
  case round =>
    obtain ⟨k, acc, hk, hk10, rfl, rfl, HACC, HG, H0, HKK⟩ := hrel
    clear hw0 K0
    have h0 := H0.out
    have b0 : wr.cell? ⟨w.heap.size, 0, none⟩ = some (.int .u64 0) := h0.cell 0
    have bz0 : wr.frozen? ⟨w.heap.size, 0, none⟩ = false := h0.frozen 0
    have b1 : wr.cell? ⟨w.heap.size, 1, none⟩ = some (.int .u64 0) := h0.cell 1
    have bz1 : wr.frozen? ⟨w.heap.size, 1, none⟩ = false := h0.frozen 1
    have b2 : wr.cell? ⟨w.heap.size, 2, none⟩ = some (.slice none 0 0) := h0.cell 2
    have bz2 : wr.frozen? ⟨w.heap.size, 2, none⟩ = false := h0.frozen 2
    have b3 : wr.cell? ⟨w.heap.size, 3, none⟩ = some (.bool false) := h0.cell 3
    have bz3 : wr.frozen? ⟨w.heap.size, 3, none⟩ = false := h0.frozen 3
    have bl := h0.lt
    have HW0 := Lib.hid h0
    clear h0
    by_cases hlt : k < n
    · by_cases h10 : k < 10
      · obtain ⟨ad, hA, hb, hcell⟩ := (HR.out.keeps HKK.out (fun _ _ h => h)).2 (by have := HNN.out; omega)
        obtain ⟨b, hbk⟩ : ∃ b, d[k]? = some b := ⟨_, List.getElem?_eq_getElem (by have := HNN.out; omega)⟩
        have hcb := hcell k (.int .u8 b.toNat) (by simp [Lib.byteCells, hbk])
        have hdrop : d.drop k = b :: d.drop (k + 1) := by
          obtain ⟨hl, hb2⟩ := List.getElem?_eq_some_iff.1 hbk
          rw [← hb2]; exact List.drop_eq_getElem_cons hl
        obtain ⟨x, hx⟩ : ∃ x, x = b.toNat := ⟨_, rfl⟩
        have hx256 : x < 256 := by rw [hx]; exact b.toNat_lt
        rw [← hx] at hcb
        subst hA
        have hkn : (k : Int) < (n : Int) := by omega
        have hk0 : (0 : Int) ≤ (k : Int) := by omega
        have m8 : IntKind.i64.wrap (7 * (k : Int)) = ((7 * k : Nat) : Int) := by rw [IntKind.wrap_i64]; omega
        have m9 : (0 : Int) ≤ ((7 * k : Nat) : Int) := by omega
        have hg := HG.out
        rw [hdrop] at hg
        have HGB := Lib.hid hg
        have HX := Lib.hid hx
        have HD := Lib.hid hdrop
        clear hcell hbk hx hdrop hg HG
        by_cases hover : k = 9 ∧ 1 < x
        · obtain ⟨rfl, hx1⟩ := hover
          have hnone : uvGo 10 0 0 d = none := by
            rw [HGB.out]
            by_cases hs : x < 128
            · exact uvGo_over HX.out.symm hs hx1
            · rw [uvGo_more HX.out.symm (by omega) hs]
              exact uvGo_zero _ _ _
          have HNO := Lib.hid hnone
          have hcb9 : wr.cell? ⟨ad.block, ad.off + 9, none⟩ = some (.int .u8 (x : Int)) := hcb
          have hx1i : (1 : Int) < (x : Int) := by omega
          clear hnone
          go_wp2_with fail
          have h0 := HW0.out
          have r1 := ((((h0.put 0 (.int .u64 0)).put 1 (.int .u64 0)).put 2 (.slice none 0 0)).put 3 (.bool true))
          have hld := run_loadVar_row (P := Tryd.prog) _ w.heap.size 34 34 _ (0, 0) _ r1 Tryd.underlying34 rfl infoGot
          have kn := ((((HKK.out.setCell (p := ⟨w.heap.size, 0, none⟩) (.inr (Nat.le_refl _)) (.int .u64 0)).setCell (p := ⟨w.heap.size, 1, none⟩) (.inr (Nat.le_refl _)) (.int .u64 0)).setCell (p := ⟨w.heap.size, 2, none⟩) (.inr (Nat.le_refl _)) (.slice none 0 0)).setCell (p := ⟨w.heap.size, 3, none⟩) (.inr (Nat.le_refl _)) (.bool true))
          exact bodyPost_ret (results_ct rfl _ ⟨w.heap.size, 0, none⟩ _ _ rfl hld) rfl ⟨.inr ⟨HNO.out, rfl⟩, kn⟩
        · have hnov : ¬ (k = 9 ∧ 1 < x) := hover
          have hpw : 2 ^ (7 * k) ≤ 2 ^ 63 := Nat.pow_le_pow_right (by omega) (by omega)
          have hacc := HACC.out
          by_cases hs : x < 128
          · have hl := uvGo_last (acc := acc) (l := d.drop (k + 1)) HX.out.symm h10 hs hnov
            rw [← HGB.out] at hl
            have hval : Go.bits .or .u64 (acc : Int) (IntKind.u64.wrap ((x : Int) * 2 ^ (7 * k))) = ((acc + x * 2 ^ (7 * k) : Nat) : Int) := by
              refine or_shift _ _ _ hacc ?_ (by omega)
              by_cases h9 : k = 9
              · have := Nat.mul_le_mul_right (2 ^ (7 * k)) (show x ≤ 1 by omega)
                omega
              · have h2 : 2 ^ (7 * k) ≤ 2 ^ 56 := Nat.pow_le_pow_right (by omega) (by omega)
                have := Nat.mul_le_mul_right (2 ^ (7 * k)) (show x ≤ 127 by omega)
                omega
            have hand := and127s x hs
            have hcmp : ((x : Int) < 128) := by omega
            have hnc : ¬ (k = 9 ∧ (1 : Int) < (x : Int)) := by omega
            have hval2 : Go.bits .or .u64 (acc : Int) ((x : Int) * 2 ^ (7 * k) % 18446744073709551616) = ((acc + x * 2 ^ (7 * k) : Nat) : Int) := by rw [← IntKind.wrap_u64]; exact hval
            obtain ⟨y, hy⟩ : ∃ y, y = acc + x * 2 ^ (7 * k) := ⟨_, rfl⟩
            rw [← hy] at hl hval hval2
            have HLL := Lib.hid hl
            clear hl hacc hnov hpw hy
            by_cases hk9 : k = 9
            · subst hk9
              have hx1i : ¬ (1 : Int) < (x : Int) := by omega
              have hcb9 : wr.cell? ⟨ad.block, ad.off + 9, none⟩ = some (.int .u8 (x : Int)) := hcb
              have hval9 : Go.bits .or .u64 (acc : Int) ((x : Int) * 9223372036854775808) = (y : Int) := by
                rw [← hval, IntKind.wrap_u64, show (2 : Int) ^ (7 * 9) = 9223372036854775808 by decide]
                congr 1
                omega
              go_wp2_with fail
              have h0 := HW0.out
              have r1 := ((((h0.put 0 (.int .u64 (y : Int))).put 1 (.int .u64 0)).put 2 (.slice none 0 0)).put 3 (.bool false))
              have hld := run_loadVar_row (P := Tryd.prog) _ w.heap.size 34 34 _ (0, 0) _ r1 Tryd.underlying34 rfl infoGot
              have kn := ((((HKK.out.setCell (p := ⟨w.heap.size, 0, none⟩) (.inr (Nat.le_refl _)) (.int .u64 (y : Int))).setCell (p := ⟨w.heap.size, 1, none⟩) (.inr (Nat.le_refl _)) (.int .u64 0)).setCell (p := ⟨w.heap.size, 2, none⟩) (.inr (Nat.le_refl _)) (.slice none 0 0)).setCell (p := ⟨w.heap.size, 3, none⟩) (.inr (Nat.le_refl _)) (.bool false))
              exact bodyPost_ret (results_ct rfl _ ⟨w.heap.size, 0, none⟩ _ _ rfl hld) rfl ⟨.inl ⟨y, _, HLL.out, by rw [List.length_drop]; omega, by rw [show ((d.length - (d.drop (9 + 1)).length : Nat) : Int) = 10 by rw [List.length_drop]; have := HNN.out; omega]; rfl⟩, kn⟩
            · go_wp2_with fail
              have h0 := HW0.out
              have r1 := ((((h0.put 0 (.int .u64 (y : Int))).put 1 (.int .u64 0)).put 2 (.slice none 0 0)).put 3 (.bool false))
              have hld := run_loadVar_row (P := Tryd.prog) _ w.heap.size 34 34 _ (0, 0) _ r1 Tryd.underlying34 rfl infoGot
              have kn := ((((HKK.out.setCell (p := ⟨w.heap.size, 0, none⟩) (.inr (Nat.le_refl _)) (.int .u64 (y : Int))).setCell (p := ⟨w.heap.size, 1, none⟩) (.inr (Nat.le_refl _)) (.int .u64 0)).setCell (p := ⟨w.heap.size, 2, none⟩) (.inr (Nat.le_refl _)) (.slice none 0 0)).setCell (p := ⟨w.heap.size, 3, none⟩) (.inr (Nat.le_refl _)) (.bool false))
              exact bodyPost_ret (results_ct rfl _ ⟨w.heap.size, 0, none⟩ _ _ rfl hld) rfl ⟨.inl ⟨y, _, HLL.out, by rw [List.length_drop]; omega, by rw [show ((d.length - (d.drop (k + 1)).length : Nat) : Int) = (k : Int) + 1 by rw [List.length_drop]; have := HNN.out; omega]; rfl⟩, kn⟩
          · have hm := uvGo_more (acc := acc) (l := d.drop (k + 1)) HX.out.symm h10 hs
            rw [← HGB.out] at hm
            have hk8 : k ≤ 8 := by omega
            have h2 : 2 ^ (7 * k) ≤ 2 ^ 56 := Nat.pow_le_pow_right (by omega) (by omega)
            have h7 := Nat.mul_le_mul_right (2 ^ (7 * k)) (show x - 128 ≤ 127 by omega)
            have hval : Go.bits .or .u64 (acc : Int) (IntKind.u64.wrap (((x - 128 : Nat) : Int) * 2 ^ (7 * k))) = ((acc + (x - 128) * 2 ^ (7 * k) : Nat) : Int) := or_shift _ _ _ hacc (by omega) (by omega)
            have hand := and127 x (by omega) hx256
            have hnc : ¬ ((x : Int) < 128) := by omega
            have hk9 : ¬ k = 9 := by omega
            have hb2 : acc + (x - 128) * 2 ^ (7 * k) < 2 ^ (7 * (k + 1)) := by
              rw [show 7 * (k + 1) = 7 + 7 * k by omega, Nat.pow_add]
              omega
            obtain ⟨y, hy⟩ : ∃ y, y = acc + (x - 128) * 2 ^ (7 * k) := ⟨_, rfl⟩
            rw [← hy] at hm hval hb2
            have HMM := Lib.hid hm
            have HB2 := Lib.hid hb2
            clear hm hacc hnov hpw hy h2 h7 hb2
            go_wp2_with fail
            go_roundw
            case rel => exact ⟨k + 1, y, by omega, by omega, rfl, by go_num, HB2, HMM, HW0, HKK⟩
            case measure => (first | (simp [RowKit.intOf]; done) | (simp [RowKit.intOf]; omega))
      · have hk10' : k = 10 := by omega
        have HNO := Lib.hid (show uvGo 10 0 0 d = none by rw [HG.out, hk10']; exact uvGo_zero _ _ _)
        subst hk10'
        have hkn : (10 : Int) < (n : Int) := by omega
        go_wp2_with fail
        have h0 := HW0.out
        have r1 := ((((h0.put 0 (.int .u64 0)).put 1 (.int .u64 0)).put 2 (.slice none 0 0)).put 3 (.bool true))
        have hld := run_loadVar_row (P := Tryd.prog) _ w.heap.size 34 34 _ (0, 0) _ r1 Tryd.underlying34 rfl infoGot
        have kn := ((((HKK.out.setCell (p := ⟨w.heap.size, 0, none⟩) (.inr (Nat.le_refl _)) (.int .u64 0)).setCell (p := ⟨w.heap.size, 1, none⟩) (.inr (Nat.le_refl _)) (.int .u64 0)).setCell (p := ⟨w.heap.size, 2, none⟩) (.inr (Nat.le_refl _)) (.slice none 0 0)).setCell (p := ⟨w.heap.size, 3, none⟩) (.inr (Nat.le_refl _)) (.bool true))
        exact bodyPost_ret (results_ct rfl _ ⟨w.heap.size, 0, none⟩ _ _ rfl hld) rfl ⟨.inr ⟨HNO.out, rfl⟩, kn⟩
    · have HNO := Lib.hid (show uvGo 10 0 0 d = none by rw [HG.out, List.drop_eq_nil_of_le (by have := HNN.out; omega)]; exact uvGo_nil rfl)
      go_wp2_with fail
      have h0 := HW0.out
      have r1 := ((((h0.put 0 (.int .u64 0)).put 1 (.int .u64 0)).put 2 (.slice none 0 0)).put 3 (.bool true))
      have hld := run_loadVar_row (P := Tryd.prog) _ w.heap.size 34 34 _ (0, 0) _ r1 Tryd.underlying34 rfl infoGot
      have kn := ((((HKK.out.setCell (p := ⟨w.heap.size, 0, none⟩) (.inr (Nat.le_refl _)) (.int .u64 0)).setCell (p := ⟨w.heap.size, 1, none⟩) (.inr (Nat.le_refl _)) (.int .u64 0)).setCell (p := ⟨w.heap.size, 2, none⟩) (.inr (Nat.le_refl _)) (.slice none 0 0)).setCell (p := ⟨w.heap.size, 3, none⟩) (.inr (Nat.le_refl _)) (.bool true))
      exact bodyPost_ret (results_ct rfl _ ⟨w.heap.size, 0, none⟩ _ _ rfl hld) rfl ⟨.inr ⟨HNO.out, rfl⟩, kn⟩
end Go.Proofs.YthfoleapdmpdfaaDoor
