/- The specification's digits and times of day, as texts. Conditions: numbers of the sizes named. -/
import Derived.Test.YtlfbmjgmdcfbkaaDoorTm
import Derived.Test.YtlfbmjgmdcfbkaaDoorProg
import Derived.LoopTactic
namespace Go.Proofs.YtlfbmjgmdcfbkaaDoor
open Go.RowKit Go.Lib
set_option linter.unusedVariables false
/-! ### digits -/
def dg (k : Nat) : UInt8 := UInt8.ofNat (48 + k)
theorem dg_toNat {k : Nat} (h : k < 10) : (dg k).toNat = 48 + k := by
  show (UInt8.ofNat (48 + k)).toNat = _
  rw [UInt8.toNat_ofNat']
  exact Nat.mod_eq_of_lt (by omega)
def digs : Nat → Nat → List UInt8
  | 0, _ => []
  | k + 1, n => digs k (n / 10) ++ [dg (n % 10)]
theorem digs_length : ∀ k n, (digs k n).length = k
  | 0, _ => rfl
  | k + 1, n => by rw [digs, List.length_append, digs_length k]; rfl
/-- A digit more ahead. -/
theorem digs_more : ∀ k n, digs (k + 1) n = dg (n / 10 ^ k % 10) :: digs k n
  | 0, n => by simp [digs]
  | k + 1, n => by
    rw [digs, digs_more k (n / 10), List.cons_append, digs, Nat.div_div_eq_div_mul, Nat.pow_succ, Nat.mul_comm]
theorem digs_digit : ∀ k n, ∀ x ∈ digs k n, 48 ≤ x.toNat ∧ x.toNat ≤ 57
  | 0, _, x, h => by simp [digs] at h
  | k + 1, n, x, h => by
    rw [digs, List.mem_append, List.mem_singleton] at h
    rcases h with h | rfl
    · exact digs_digit k _ x h
    · rw [dg_toNat (Nat.mod_lt _ (by omega))]
      have := Nat.mod_lt n (show 10 > 0 by omega)
      omega
theorem one_byte {r : Nat} (h : r < 10) {z : Int} (hz : z = 48 + (r : Int)) : [Value.int .u8 z] = Lib.byteCells [dg r] := by
  subst hz
  simp only [Lib.byteCells, List.map_cons, List.map_nil, dg_toNat h]
  congr 2
theorem conv_one {r : Nat} (h : r < 10) (w : World) : (convert 33 9 (.slice (some ⟨w.heap.size, 0, none⟩) 1 1)).run Tryd.prog (w.alloc (.cells #[.int .u8 (48 + (r : Int))] 5)) = .ok (.string (sOf [dg r])) (w.alloc (.cells #[.int .u8 (48 + (r : Int))] 5)) := by
  refine run_str_rd Tryd.underlying33 Tryd.underlying5 Tryd.underlying9 (l := [dg r]) (n := 1) ?_
  have := rd_one w 5 (.int .u8 (48 + (r : Int)))
  rw [← one_byte h rfl]
  exact this
theorem str_app (a b : List UInt8) : sOf a ++ sOf b = sOf (a ++ b) := sOf_app a b

set_option maxRecDepth 10000 in
set_option maxHeartbeats 400000 in
theorem tmDigits (w : World) (f k : Nat) (hf : f ≤ 1000000000) (hk : k ≤ 9) :
    Calls Tryd.prog 8 #[.int .i64 f, .int .i64 k] w fun e w' => e = .returned (.string (sOf (digs k f))) ∧ Keeps (fun _ => False) w w' := by
  go_enter Tryd.func8, Tryd.ntmps8
  go_wp2_with fail
  go_loopw [0, 5, 6] (fun X v i wr => ∃ j : Nat, j ≤ k ∧ i = .int .i64 j ∧ X = .int .i64 ((f / 10 ^ j : Nat) : Int) ∧ v = .string (sOf (digs j f)) ∧ Keeps (fun _ => False) w wr) (fun _ _ i _ => k - (RowKit.intOf i).toNat)
  case atStart => exact ⟨0, Nat.zero_le _, rfl, by simp, rfl, Keeps.refl _ _⟩
  case round =>
    obtain ⟨j, hj, rfl, rfl, rfl, hK⟩ := hrel
    by_cases hlt : j < k
    · have hq : f / 10 ^ j ≤ 1000000000 := Nat.le_trans (Nat.div_le_self _ _) hf
      have hm := digs_more j f
      have hd : f / 10 ^ (j + 1) = f / 10 ^ j / 10 := by rw [Nat.div_div_eq_div_mul, Nat.pow_succ]
      generalize f / 10 ^ j = q at *
      have hr : q % 10 < 10 := Nat.mod_lt _ (by omega)
      have e1 : Int.tmod (q : Int) 10 = ((q % 10 : Nat) : Int) := by rw [Int.tmod_eq_emod_of_nonneg (by omega)]; omega
      have e2 : Int.tdiv (q : Int) 10 = ((q / 10 : Nat) : Int) := by rw [Int.tdiv_eq_ediv_of_nonneg (by omega)]; omega
      have hq2 : ((q / 10 : Nat) : Int) ≤ 1000000000 := by omega
      generalize q / 10 = q1 at *
      generalize q % 10 = r at *
      have e3 : IntKind.i64.wrap (r : Int) = r := by apply wrapI <;> omega
      have e4 : IntKind.i64.wrap (48 + (r : Int)) = 48 + r := by apply wrapI <;> omega
      have e5 : IntKind.u8.wrap (48 + (r : Int)) = 48 + r := by rw [IntKind.wrap_u8]; omega
      have e6 : IntKind.i64.wrap (q1 : Int) = q1 := by apply wrapI <;> omega
      have e7 : IntKind.i64.wrap ((j : Int) + 1) = (j : Int) + 1 := by apply wrapI <;> omega
      have hcv := conv_one hr wr
      have happ := str_app [dg r] (digs j f)
      rw [List.singleton_append, ← hm] at happ
      have hnl : ¬ (9223372036854775807 < 1 + (digs j f).length) := by rw [digs_length]; omega
      have HK := Lib.hid hK
      have HD := Lib.hid hd
      clear hK hd hf hq hq2 hm
      go_wp2_with fail
      go_round
      case rel => exact ⟨j + 1, by omega, by simp, by rw [HD.out], rfl, HK.out.alloc _⟩
      case measure => (first | (simp [intOf]; done) | (simp [intOf]; omega))
    · have hjk : j = k := by omega
      subst hjk
      go_wp2_with fail
      go_ret
      exact ⟨rfl, hK⟩

theorem digs2 (n : Nat) (h : n < 100) : digs 2 n = [dg (n / 10), dg (n % 10)] := by
  have h1 : n / 10 % 10 = n / 10 := Nat.mod_eq_of_lt (by omega)
  simp [digs, h1]
theorem sOf_snoc (a : List UInt8) (b : ByteArray) (l : List UInt8) (h : b = sOf l) : sOf a ++ b = sOf (a ++ l) := by subst h; exact sOf_app a l
set_option maxRecDepth 10000 in
set_option maxHeartbeats 800000 in
theorem tmTwo (w : World) (n : Nat) (h : n < 100) :
    Calls Tryd.prog 12 #[.int .i64 n] w fun e w' => e = .returned (.string (sOf (digs 2 n))) ∧ Keeps (fun _ => False) w w' := by
  have e1 : Int.tmod (n : Int) 10 = ((n % 10 : Nat) : Int) := by rw [Int.tmod_eq_emod_of_nonneg (by omega)]; omega
  have e2 : Int.tdiv (n : Int) 10 = ((n / 10 : Nat) : Int) := by rw [Int.tdiv_eq_ediv_of_nonneg (by omega)]; omega
  have f1 : Int.tmod ((n / 10 : Nat) : Int) 10 = ((n / 10 : Nat) : Int) := by rw [Int.tmod_eq_emod_of_nonneg (by omega)]; omega
  have f2 : Int.tdiv ((n / 10 : Nat) : Int) 10 = 0 := by rw [Int.tdiv_eq_ediv_of_nonneg (by omega)]; omega
  rw [digs2 n h]
  have hr : n % 10 < 10 := Nat.mod_lt _ (by omega)
  have hq : n / 10 < 10 := by omega
  have h0 : n = 0 → n / 10 = 0 ∧ n % 10 = 0 := by rintro rfl; exact ⟨rfl, rfl⟩
  generalize n / 10 = q at *
  generalize n % 10 = r at *
  have e3 : IntKind.i64.wrap (r : Int) = r := by apply wrapI <;> omega
  have e4 : IntKind.i64.wrap (48 + (r : Int)) = 48 + r := by apply wrapI <;> omega
  have e5 : IntKind.u8.wrap (48 + (r : Int)) = 48 + r := by rw [IntKind.wrap_u8]; omega
  have e6 : IntKind.i64.wrap (q : Int) = q := by apply wrapI <;> omega
  have e7 : IntKind.i64.wrap (48 + (q : Int)) = 48 + q := by apply wrapI <;> omega
  have e8 : IntKind.u8.wrap (48 + (q : Int)) = 48 + q := by rw [IntKind.wrap_u8]; omega
  have hcv1 := conv_one hr w
  have hcv2 := conv_one hq (w.alloc (.cells #[.int .u8 (48 + (r : Int))] 5))
  rw [World.size_alloc] at hcv2
  have happ1 : sOf [dg r] ++ (⟨#[]⟩ : ByteArray) = sOf [dg r] := sOf_snoc _ _ [] rfl
  have happ2 := str_app [dg q] [dg r]
  rw [List.singleton_append] at happ2
  have K0 := ((Keeps.refl (fun _ => False) w).alloc (.cells #[.int .u8 (48 + (r : Int))] 5)).alloc (.cells #[.int .u8 (48 + (q : Int))] 5)
  have HK0 := Lib.hid K0
  clear K0 h hr hq
  have g0 : (0 : Int) < (n : Int) ∨ ¬ (0 : Int) < (n : Int) := Decidable.em _
  have g1 : (0 : Int) < (q : Int) ∨ ¬ (0 : Int) < (q : Int) := Decidable.em _
  clear h0
  generalize (n : Int) = N at *
  generalize (r : Int) = R at *
  generalize (q : Int) = Q at *
  go_enter Tryd.func12, Tryd.ntmps12
  rcases g0 with g0 | g0 <;> rcases g1 with g1 | g1
  all_goals
    go_wp2_with fail
    refine wp_loop_rounds 3 ?_
    rw [rounds_succ]
    go_wp2_with fail
    rw [rounds_succ]
    go_wp2_with fail
    rw [rounds_succ]
    go_wp2_with fail
    go_ret
    exact ⟨rfl, HK0.out⟩
def tt (n : Nat) : List UInt8 := digs 2 (n / 3600) ++ [58] ++ digs 2 (n / 60 % 60) ++ [58] ++ digs 2 (n % 60)
set_option maxRecDepth 10000 in
set_option maxHeartbeats 400000 in
theorem tmTextV (w : World) (N N0 N1 N2 N3 : Int) (s1 s2 s3 t2 t3 t4 t5 : ByteArray) (e1 : Int.tdiv N 3600 = N1) (e0 : Int.tdiv N 60 = N0) (e2 : Int.tmod N0 60 = N2) (e3 : Int.tmod N 60 = N3)
    (w0 : IntKind.i64.wrap N0 = N0) (w1 : IntKind.i64.wrap N1 = N1) (w2 : IntKind.i64.wrap N2 = N2) (w3 : IntKind.i64.wrap N3 = N3)
    (HA : Hid (∀ w, Calls Tryd.prog 12 #[.int .i64 N1] w fun e w' => e = .returned (.string s1) ∧ Keeps (fun _ => False) w w')) (HB : Hid (∀ w, Calls Tryd.prog 12 #[.int .i64 N2] w fun e w' => e = .returned (.string s2) ∧ Keeps (fun _ => False) w w')) (HC : Hid (∀ w, Calls Tryd.prog 12 #[.int .i64 N3] w fun e w' => e = .returned (.string s3) ∧ Keeps (fun _ => False) w w'))
    (a1 : s1 ++ (⟨#[58]⟩ : ByteArray) = t2) (a2 : t2 ++ s2 = t3) (a3 : t3 ++ (⟨#[58]⟩ : ByteArray) = t4) (a4 : t4 ++ s3 = t5) (z1 : s1.size = 2) (z2 : s2.size = 2) (z3 : s3.size = 2) (z4 : t2.size = 3) (z5 : t3.size = 5) (z6 : t4.size = 6) :
    Calls Tryd.prog 7 #[.int .i64 N] w fun e w' => e = .returned (.string t5) ∧ Keeps (fun _ => False) w w' := by
  go_enter Tryd.func7, Tryd.ntmps7
  go_wp2_with fail
  refine (HA.out _).mono ?_
  rintro e wa ⟨rfl, KA⟩
  go_wp2_with fail
  refine (HB.out _).mono ?_
  rintro e wb ⟨rfl, KB⟩
  go_wp2_with fail
  refine (HC.out _).mono ?_
  rintro e wc ⟨rfl, KC⟩
  go_wp2_with fail
  go_ret
  exact ⟨rfl, (KA.trans KB (fun _ _ h => h)).trans KC (fun _ _ h => h)⟩
theorem tt_size (n : Nat) : (tt n).length = 8 := by simp [tt, digs_length]
theorem tmText (w : World) (n : Nat) (h : n < 360000) :
    Calls Tryd.prog 7 #[.int .i64 n] w fun e w' => e = .returned (.string (sOf (tt n))) ∧ Keeps (fun _ => False) w w' := by
  have l1 := digs_length 2 (n / 3600)
  have l2 := digs_length 2 (n / 60 % 60)
  have l3 := digs_length 2 (n % 60)
  refine tmTextV w n ((n / 60 : Nat) : Int) ((n / 3600 : Nat) : Int) ((n / 60 % 60 : Nat) : Int) ((n % 60 : Nat) : Int) (sOf (digs 2 (n / 3600))) (sOf (digs 2 (n / 60 % 60))) (sOf (digs 2 (n % 60))) (sOf (digs 2 (n / 3600) ++ [58])) (sOf (digs 2 (n / 3600) ++ [58] ++ digs 2 (n / 60 % 60))) (sOf (digs 2 (n / 3600) ++ [58] ++ digs 2 (n / 60 % 60) ++ [58])) _
    ?_ ?_ ?_ ?_ ?_ ?_ ?_ ?_ (Lib.hid fun w => tmTwo w (n / 3600) (by omega)) (Lib.hid fun w => tmTwo w (n / 60 % 60) (by omega)) (Lib.hid fun w => tmTwo w (n % 60) (by omega)) (sOf_app _ _) (sOf_app _ _) (sOf_app _ _) (sOf_app _ _) ?_ ?_ ?_ ?_ ?_ ?_
  · rw [Int.tdiv_eq_ediv_of_nonneg (by omega)]; omega
  · rw [Int.tdiv_eq_ediv_of_nonneg (by omega)]; omega
  · rw [Int.tmod_eq_emod_of_nonneg (by omega)]; omega
  · rw [Int.tmod_eq_emod_of_nonneg (by omega)]; omega
  · apply wrapI <;> omega
  · apply wrapI <;> omega
  · apply wrapI <;> omega
  · apply wrapI <;> omega
  · rw [sOf_size, l1]
  · rw [sOf_size, l2]
  · rw [sOf_size, l3]
  · rw [sOf_size, List.length_append, l1]; rfl
  · rw [sOf_size, List.length_append, List.length_append, l1, l2]; rfl
  · rw [sOf_size, List.length_append, List.length_append, List.length_append, l1, l2]; rfl
end Go.Proofs.YtlfbmjgmdcfbkaaDoor
