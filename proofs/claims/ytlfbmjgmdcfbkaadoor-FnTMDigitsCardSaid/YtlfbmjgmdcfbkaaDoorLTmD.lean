/- FnTMDigits's walk. Conditions: the numbers' own sizes. -/
import Derived.Test.YtlfbmjgmdcfbkaaDoorTmR
namespace Go.Proofs.YtlfbmjgmdcfbkaaDoor
open Go.RowKit Go.Lib
set_option linter.unusedVariables false
set_option maxRecDepth 10000 in
set_option maxHeartbeats 1600000 in
theorem digitsV (w : World) (T M G N R : Int) (k F : Nat) (s1 s2 s3 s4 : ByteArray) (hk : 0 < k) (hk9 : k ≤ 9) (hF : F < 1000000000)
    (t1 : Int.tmod T 360000 = N) (t2 : IntKind.u32.wrap N = N) (t3 : IntKind.i64.wrap N = N) (m0 : IntKind.i64.wrap M = M) (m1 : Int.tmod M 9 = (k : Int) - 1) (g1 : Int.tmod G 1000000000 = (F : Int)) (g2 : IntKind.u32.wrap (F : Int) = F)
    (a1 : s1 ++ (⟨#[46]⟩ : ByteArray) = s2) (a2 : s2 ++ s3 = s4) (z1 : s1.size = 8) (z2 : s2.size = 9) (z3 : s3.size = k)
    (r1 : IntKind.i64.wrap (N * 1000000000) = N * 1000000000) (r2 : IntKind.i64.wrap (N * 1000000000 + ((F / 10 ^ (9 - k) * 10 ^ (9 - k) : Nat) : Int)) = R)
    (hT : Ret 7 #[.int .i64 N] (.string s1)) (hD : Ret 8 #[.int .i64 ((F / 10 ^ (9 - k) : Nat) : Int), .int .i64 k] (.string s3)) (hP : Ret 6 #[.string s4] (.tuple #[.int .i64 R, .bool true])) :
    Calls Tryd.prog 3 #[.int .u32 T, .int .u8 M, .int .u32 G] w fun e w' => e = .returned (.bool true) ∧ Below w.heap.size w w' := by
  have HT := Lib.hid hT
  have HD := Lib.hid hD
  have HP := Lib.hid hP
  have x1 : IntKind.i64.wrap (1 + ((k : Int) - 1)) = (k : Int) := by rw [show 1 + ((k : Int) - 1) = (k : Int) by omega]; apply wrapI <;> omega
  have x0 : IntKind.i64.wrap ((k : Int) - 1) = (k : Int) - 1 := by apply wrapI <;> omega
  have x2 : IntKind.i64.wrap (F : Int) = F := by apply wrapI <;> omega
  have x3 : (1 + ((k : Int) - 1)) = k := by omega
  have HF := Lib.hid hF
  have HZ := Lib.hid z3
  have z4 : ¬ (9223372036854775807 < 9 + k) := by omega
  clear hT hD hP hF
  go_enter Tryd.func3, Tryd.ntmps3
  go_wp2_with fail
  go_loop [9, 10] (fun f i => ∃ j : Nat, k + j ≤ 9 ∧ i = .int .i64 ((k + j : Nat) : Int) ∧ f = .int .i64 ((F / 10 ^ j : Nat) : Int)) (fun _ i => 9 - (RowKit.intOf i).toNat)
  case atStart => exact ⟨0, by omega, by simp, by simp⟩
  case round =>
    obtain ⟨j, hj, rfl, rfl⟩ := hrel
    by_cases hlt : k + j < 9
    · have hq : F / 10 ^ j ≤ 1000000000 := Nat.le_trans (Nat.div_le_self _ _) (Nat.le_of_lt HF.out)
      have hd : F / 10 ^ (j + 1) = F / 10 ^ j / 10 := by rw [Nat.div_div_eq_div_mul, Nat.pow_succ]
      have HR := Lib.hid (show ∃ i : Nat, k + i ≤ 9 ∧ Value.int .i64 ((k + j : Nat) + 1 : Int) = .int .i64 ((k + i : Nat) : Int) ∧ Value.int .i64 ((F / 10 ^ j / 10 : Nat) : Int) = .int .i64 ((F / 10 ^ i : Nat) : Int) from ⟨j + 1, by omega, by congr 1, by rw [hd]⟩)
      generalize F / 10 ^ j = q at *
      have e2 : Int.tdiv (q : Int) 10 = ((q / 10 : Nat) : Int) := by rw [Int.tdiv_eq_ediv_of_nonneg (by omega)]; omega
      have e6 : IntKind.i64.wrap ((q / 10 : Nat) : Int) = ((q / 10 : Nat) : Int) := by apply wrapI <;> omega
      generalize ((q / 10 : Nat) : Int) = q1 at *
      have e7 : IntKind.i64.wrap (((k + j : Nat) : Int) + 1) = ((k + j : Nat) : Int) + 1 := by apply wrapI <;> omega
      have hz : ((k + j : Nat) : Int) < 9 := by omega
      have hme : 9 - ((k + j : Nat) + 1 : Int).toNat < 9 - ((k + j : Nat) : Int).toNat := by omega
      generalize ((k + j : Nat) : Int) = I at *
      generalize (q : Int) = Q at *
      clear hd hq hlt
      go_wp2_with fail
      go_round
      case rel => exact HR.out
      case measure => exact hme
    · have hjk : j = 9 - k := by omega
      subst hjk
      have hz : ((k + (9 - k) : Nat) : Int) = 9 := by omega
      have hfle : F / 10 ^ (9 - k) * 10 ^ (9 - k) ≤ F := Nat.div_mul_le_self _ _
      generalize F / 10 ^ (9 - k) = f0 at *
      have hs0 : (f0 * 10 ^ (9 - k) : Nat) < 1000000000 := Nat.lt_of_le_of_lt hfle HF.out
      have HS0 := Lib.hid hs0
      clear hs0 hfle hj hlt
      go_wp2_with fail
      refine (HT.out _).mono ?_
      rintro e wa ⟨rfl, KA⟩
      go_wp2_with fail
      refine (HD.out _).mono ?_
      rintro e wb ⟨rfl, KB⟩
      go_wp2_with fail
      refine (HP.out _).mono ?_
      rintro e wc ⟨rfl, KC⟩
      have HK := Lib.hid ((KA.trans KB (fun _ _ h => h)).trans KC (fun _ _ h => h))
      clear KA KB KC
      go_wp2_with fail
      go_loop [9, 13] (fun f i => ∃ j : Nat, k + j ≤ 9 ∧ i = .int .i64 ((k + j : Nat) : Int) ∧ f = .int .i64 ((f0 * 10 ^ j : Nat) : Int)) (fun _ i => 9 - (RowKit.intOf i).toNat)
      case atStart => exact ⟨0, by omega, by simp, by simp⟩
      case round =>
        obtain ⟨j, hj, rfl, rfl⟩ := hrel
        by_cases hlt : k + j < 9
        · have hle : f0 * 10 ^ j * 10 ≤ f0 * 10 ^ (9 - k) := by
            rw [Nat.mul_assoc, ← Nat.pow_succ]
            exact Nat.mul_le_mul_left _ (Nat.pow_le_pow_right (by omega) (by omega))
          have hd : f0 * 10 ^ (j + 1) = f0 * 10 ^ j * 10 := by rw [Nat.pow_succ, Nat.mul_assoc]
          have HR := Lib.hid (show ∃ i : Nat, k + i ≤ 9 ∧ Value.int .i64 ((k + j : Nat) + 1 : Int) = .int .i64 ((k + i : Nat) : Int) ∧ Value.int .i64 (((f0 * 10 ^ j : Nat) : Int) * 10) = .int .i64 ((f0 * 10 ^ i : Nat) : Int) from ⟨j + 1, by omega, by congr 1, by rw [hd]; congr 1⟩)
          have hq : f0 * 10 ^ j * 10 < 1000000000 := Nat.lt_of_le_of_lt hle HS0.out
          generalize f0 * 10 ^ j = q at *
          have e6 : IntKind.i64.wrap ((q : Int) * 10) = (q : Int) * 10 := by apply wrapI <;> omega
          have e7 : IntKind.i64.wrap (((k + j : Nat) : Int) + 1) = ((k + j : Nat) : Int) + 1 := by apply wrapI <;> omega
          have hz : ((k + j : Nat) : Int) < 9 := by omega
          have hme : 9 - ((k + j : Nat) + 1 : Int).toNat < 9 - ((k + j : Nat) : Int).toNat := by omega
          generalize ((k + j : Nat) : Int) = I at *
          generalize (q : Int) = Q at *
          clear hd hq hlt hle
          go_wp2_with fail
          go_round
          case rel => exact HR.out
          case measure => exact hme
        · have hjk : j = 9 - k := by omega
          subst hjk
          generalize ((f0 * 10 ^ (9 - k) : Nat) : Int) = FF at *
          have hz : ((k + (9 - k) : Nat) : Int) = 9 := by omega
          clear hlt hj
          go_wp2_with fail
          go_ret
          exact ⟨rfl, HK.out.below (Nat.le_refl _) (fun _ h => h.elim)⟩
theorem tmDigitsWalk (w : World) (a0 a1 a2 : Int) (h0 : 0 ≤ a0) (h0u : a0 ≤ 4294967295) (h1 : 0 ≤ a1) (h1u : a1 ≤ 255) (h2 : 0 ≤ a2) (h2u : a2 ≤ 4294967295) :
    Calls Tryd.prog 3 #[.int .u32 a0, .int .u8 a1, .int .u32 a2] w fun e w' => e = .returned (.bool true) ∧ Below w.heap.size w w' := by
  obtain ⟨T, rfl⟩ := Int.eq_ofNat_of_zero_le h0
  obtain ⟨M, rfl⟩ := Int.eq_ofNat_of_zero_le h1
  obtain ⟨G, rfl⟩ := Int.eq_ofNat_of_zero_le h2
  obtain ⟨k, hk⟩ : ∃ k, k = 1 + M % 9 := ⟨_, rfl⟩
  obtain ⟨F, hF⟩ : ∃ F, F = G % 1000000000 := ⟨_, rfl⟩
  obtain ⟨n, hn⟩ : ∃ n, n = T % 360000 := ⟨_, rfl⟩
  have hk0 : 0 < k := by omega
  have hk9 : k ≤ 9 := by omega
  have hF0 : F < 1000000000 := by omega
  have hn0 : n < 360000 := by omega
  have hf : F / 10 ^ (9 - k) < 10 ^ k := by
    rw [Nat.div_lt_iff_lt_mul (Nat.pow_pos (by omega)), ← Nat.pow_add, show k + (9 - k) = 9 by omega]
    exact hF0
  have hle : F / 10 ^ (9 - k) * 10 ^ (9 - k) ≤ F := Nat.div_mul_le_self _ _
  have hdl : F / 10 ^ (9 - k) ≤ F := Nat.div_le_self _ _
  have happ : sOf (tt n ++ [46]) ++ sOf (digs k (F / 10 ^ (9 - k))) = sOf (tt n ++ 46 :: digs k (F / 10 ^ (9 - k))) := by rw [sOf_app, List.append_assoc]; rfl
  refine digitsV w T M G (n : Int) ((n * 1000000000 + F / 10 ^ (9 - k) * 10 ^ (9 - k) : Nat) : Int) k F (sOf (tt n)) (sOf (tt n ++ [46])) (sOf (digs k (F / 10 ^ (9 - k)))) _ hk0 hk9 hF0 ?_ ?_ ?_ ?_ ?_ ?_ ?_ (sOf_app _ _) happ ?_ ?_ ?_ ?_ ?_ (fun w => tmText w n hn0) (fun w => tmDigits w _ k (by omega) hk9) (fun w => tmParse64V w _ _ (fun w => parse64 w n k _ hn0 hk0 hk9 hf))
  · rw [Int.tmod_eq_emod_of_nonneg (by omega)]; omega
  · rw [IntKind.wrap_u32]; omega
  · apply wrapI <;> omega
  · apply wrapI <;> omega
  · rw [Int.tmod_eq_emod_of_nonneg (by omega)]; omega
  · rw [Int.tmod_eq_emod_of_nonneg (by omega)]; omega
  · rw [IntKind.wrap_u32]; omega
  · rw [sOf_size, tt_size]
  · rw [sOf_size, List.length_append, tt_size]; rfl
  · rw [sOf_size, digs_length]
  · apply wrapI <;> omega
  · generalize F / 10 ^ (9 - k) * 10 ^ (9 - k) = g at *
    rw [show (n : Int) * 1000000000 + (g : Int) = ((n * 1000000000 + g : Nat) : Int) by omega]
    apply wrapI <;> omega
end Go.Proofs.YtlfbmjgmdcfbkaaDoor
