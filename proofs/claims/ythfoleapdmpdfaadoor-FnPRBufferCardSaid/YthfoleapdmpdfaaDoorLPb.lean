/- FnPRBuffer's walk. Conditions: lengths that an argument can have; what the variable EOF holds. -/
import Derived.Test.YthfoleapdmpdfaaDoorPb
import Derived.Test.YthfoleapdmpdfaaDoorAx
import Derived.Test.YthfoleapdmpdfaaDoorRow
namespace Go.Proofs.YthfoleapdmpdfaaDoor
open Go.RowKit Go.Lib
set_option linter.unusedVariables false
theorem Rd.first {w : World} {n k : Nat} {A : Option Addr} {xs : List Value} (h : Rd w 1 A n xs) (hk : k ≤ n) : Rd w 1 A k (xs.take k) := by
  refine ⟨by rw [List.length_take, h.1]; omega, fun hn => ?_⟩
  obtain ⟨ad, rfl, hb, hc⟩ := h.2 (by omega)
  refine ⟨ad, rfl, hb, fun j u hu => hc j u ?_⟩
  rw [List.getElem?_take] at hu
  split at hu
  · exact hu
  · cases hu
theorem EofV.keeps {w w' : World} (h : EofV w) (K : Keeps (fun _ => False) w w') : EofV w' := by
  obtain ⟨a, h⟩ := h
  exact ⟨a, (K.cell (lt_of_cell h) (fun h => h)).trans h⟩
set_option maxRecDepth 10000 in
set_option maxHeartbeats 1600000 in
theorem pbMain (w : World) (A : Option Addr) (n c m x r mm : Nat) (l : List UInt8) (hl : l.length = n) (hR : Rd w 1 A n (Lib.byteCells l)) (hc : n ≤ c) (hn : n ≤ 200) (hm : m < 256) (hx : x < 256) (hr : r = 1 + x % 100) (hmm : mm = min r n) (hE : EofV w) :
    Calls Tryd.prog 5 #[.slice A n c, .int .u8 (m : Int), .int .u8 (x : Int)] w fun e w' => e = .returned (.bool true) ∧ Below w.heap.size w w' := by
  have e1 : IntKind.i64.wrap (m : Int) = m := by rw [IntKind.wrap_i64]; omega
  have e2 : IntKind.i64.wrap (x : Int) = x := by rw [IntKind.wrap_i64]; omega
  have e3 : Int.tmod (x : Int) 100 = (r : Int) - 1 := by rw [Int.tmod_eq_emod_of_nonneg (by omega)]; omega
  have e4 : IntKind.i64.wrap ((r : Int) - 1) = (r : Int) - 1 := by rw [IntKind.wrap_i64]; omega
  have e5 : 1 + ((r : Int) - 1) = (r : Int) := by omega
  have e6 : IntKind.i64.wrap (r : Int) = (r : Int) := by rw [IntKind.wrap_i64]; omega
  have r0 : 0 < r := by omega
  have r1 : r ≤ 1000 := by omega
  have m1 : mm ≤ c := by omega
  have m2 : mm ≤ n := by omega
  have hmin : min (r : Int) (n : Int) = (mm : Int) := by omega
  have g1 : ¬ ((200 : Int) < (n : Int)) := by omega
  have g2 : ¬ ((2147483647 : Int) < (n : Int)) := by omega
  have HR := Lib.hid hR
  have HA := Lib.hid (fun w (h : Rd w 1 A l.length (Lib.byteCells l)) => prRead w A c l r h (by omega) r0 r1)
  have HB := Lib.hid (fun w (h : Rd w 1 A l.length (Lib.byteCells l)) => prEnsure w A c l m h (by omega) (by omega))
  have HC := Lib.hid (fun w (h : Rd w 1 A l.length (Lib.byteCells l)) => prReset w A c l h (by omega))
  have HE := Lib.hid hE
  have htk : l.take r = l.take mm := by
    rw [hmm]
    rcases Nat.le_total r n with h | h
    · rw [Nat.min_eq_left h]
    · rw [Nat.min_eq_right h, List.take_of_length_le (by omega), List.take_of_length_le (by omega)]
  have HTK := Lib.hid htk
  rw [hl, ← hmm] at HA
  rw [hl] at HB HC
  have HL := Lib.hid hl
  have HQ := Lib.hid (fun (w : World) (g k : Nat) (h1 : Rd w 1 (some ⟨g, 0, none⟩) mm (Lib.byteCells (l.take r))) (h2 : Rd w 1 A n (Lib.byteCells l)) => (bytesEq w (some ⟨g, 0, none⟩) A mm k mm c (l.take mm) (l.take mm) (by rw [← HTK.out]; exact h1) (by
      have h := h2.first m2
      rwa [show (Lib.byteCells l).take mm = Lib.byteCells (l.take mm) by simp [Lib.byteCells, List.map_take]] at h)))
  have hcs : (n = 0 ∧ mm = 0 ∧ True ∧ True ∧ True) ∨ (0 < n ∧ mm = r ∧ r ≤ n ∧ decide (n = 0) = false ∧ ((n : Int) == 0) = false) ∨ (0 < n ∧ mm = n ∧ n < r ∧ decide (n = 0) = false ∧ ((n : Int) == 0) = false) := by
    by_cases hn0 : n = 0
    · exact .inl ⟨hn0, by omega, trivial, trivial, trivial⟩
    · have h1 : decide (n = 0) = false := decide_eq_false hn0
      have h2 : ((n : Int) == 0) = false := by rw [beq_eq_false_iff_ne]; omega
      rcases Nat.lt_or_ge n r with h | h
      · exact .inr (.inr ⟨by omega, by omega, h, h1, h2⟩)
      · exact .inr (.inl ⟨by omega, by omega, h, h1, h2⟩)
  clear hR hE htk hm hx hr hmm hl
  clear hmin
  rcases hcs with ⟨rfl, rfl, d0, d1, d2⟩ | ⟨hz, rfl, h3, d1, d2⟩ | ⟨hz, rfl, h3, d1, d2⟩
  all_goals
    go_enter Tryd.func5, Tryd.ntmps5
    go_wp2_with fail
    refine (HA.out _ HR.out HE.out).mono ?_
    rintro e w1 ⟨g, k, rfl, hG, hk, K1⟩
    rw [HL.out]
    have HG := Lib.hid hG
    have HK1 := Lib.hid K1
    clear hG K1
    go_wp2_with fail
    refine (HB.out _ (HR.out.keeps HK1.out (fun _ _ h => h))).mono ?_
    rintro e w2 ⟨rfl, K2⟩
    have HK2 := Lib.hid (HK1.out.trans K2 (fun _ _ h => h))
    have HG2 := Lib.hid (HG.out.keeps K2 (fun _ _ h => h))
    clear K2
    go_wp2_with fail
    refine (HC.out _ (HR.out.keeps HK2.out (fun _ _ h => h))).mono ?_
    rintro e w3 ⟨rfl, K3⟩
    have HK3 := Lib.hid (HK2.out.trans K3 (fun _ _ h => h))
    have HG3 := Lib.hid (HG2.out.keeps K3 (fun _ _ h => h))
    clear K3
    go_wp2_with fail
    refine (HQ.out w3 _ _ HG3.out (HR.out.keeps HK3.out (fun _ _ h => h))).mono ?_
    rintro e w4 ⟨rfl, rfl⟩
    go_wp2_with fail
    refine (prAwake _).mono ?_
    rintro e w5 ⟨rfl, K5⟩
    have HK5 := Lib.hid (HK3.out.trans K5 (fun _ _ h => h))
    clear K5
    go_wp2_with fail
    go_ret
    exact ⟨rfl, HK5.out.below (Nat.le_refl _) (fun _ h => h.elim)⟩
set_option maxRecDepth 10000 in
theorem pbWalk (w : World) (A : Option Addr) (n c : Nat) (l : List UInt8) (a1 a2 : Int) (hl : l.length = n) (hR : Rd w 1 A n (Lib.byteCells l)) (hc : n ≤ c) (h1 : 0 ≤ a1) (h1u : a1 ≤ 255) (h2 : 0 ≤ a2) (h2u : a2 ≤ 255) (hE : EofV w) :
    Calls Tryd.prog 5 #[.slice A n c, .int .u8 a1, .int .u8 a2] w fun e w' => e = .returned (.bool true) ∧ Below w.heap.size w w' := by
  obtain ⟨m, rfl⟩ := Int.eq_ofNat_of_zero_le h1
  obtain ⟨x, rfl⟩ := Int.eq_ofNat_of_zero_le h2
  by_cases hs : n ≤ 200
  · exact pbMain w A n c m x (1 + x % 100) (min (1 + x % 100) n) l hl hR hc hs (by omega) (by omega) rfl rfl hE
  · clear hl hR hE h1 h1u h2 h2u
    by_cases hb : n ≤ 2147483647
    · have g1 : ((200 : Int) < (n : Int)) := by omega
      have g2 : ¬ ((2147483647 : Int) < (n : Int)) := by omega
      clear hs hb
      go_enter Tryd.func5, Tryd.ntmps5
      go_wp2_with fail
      go_ret
      exact ⟨rfl, Below.refl _ _⟩
    · have g2 : ((2147483647 : Int) < (n : Int)) := by omega
      clear hs hb
      go_enter Tryd.func5, Tryd.ntmps5
      go_wp2_with fail
      go_ret
      exact ⟨rfl, Below.refl _ _⟩
end Go.Proofs.YthfoleapdmpdfaaDoor
