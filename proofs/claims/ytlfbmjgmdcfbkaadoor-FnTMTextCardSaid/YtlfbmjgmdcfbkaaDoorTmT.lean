/- FnTMText's walk: a time of day in seconds as a text. Conditions: the numbers' own sizes. -/
import Derived.Test.YtlfbmjgmdcfbkaaDoorLTmW
import Derived.Test.YtlfbmjgmdcfbkaaDoorFlt
import Derived.Test.YtlfbmjgmdcfbkaaDoorFltH
namespace Go.Proofs.YtlfbmjgmdcfbkaaDoor
open Go.RowKit Go.Lib
set_option linter.unusedVariables false
theorem int_float (w : World) (n : Nat) (N : Int) (h : N = (n : Int)) : (convert 53 54 (.int .i64 N)).run Tryd.prog w = .ok (.float .f64 (Ieee.double.nearest false n 0)) w := by
  subst h
  have := run_convert_int_float (P := Tryd.prog) w 53 54 .i64 .f64 (n : Int) (by simp [Tryd.underlying53]) Tryd.underlying54
  have e : floatOfInt .f64 (n : Int) = Ieee.double.nearest false n 0 := by
    show Ieee.double.write (.number (decide ((n : Int) < 0)) (n : Int).natAbs 0) = _
    rw [decide_eq_false (by omega), Int.natAbs_natCast]
    rfl
  rw [e] at this
  exact this
def CutsTo (r : Nat) (a : Nat) : Prop := (Ieee.double.read r).toInt .zero = some (a : Int)
theorem float_int (w : World) {r a : Nat} (h : CutsTo r a) (ha : a < 2 ^ 39) : (convert 54 3 (.float .f64 r)).run Tryd.prog w = .ok (.int .i64 (a : Int)) w := by
  refine run_convert_float_int (P := Tryd.prog) w 54 3 .f64 .i64 r (a : Int) (by simp [Tryd.underlying54]) Tryd.underlying3 ?_
  unfold floatToIntVal
  have h' : (FloatKind.f64.decode r).toInt .zero = some (a : Int) := h
  rw [h']
  have h1 : IntKind.i64.min ≤ (a : Int) ∧ (a : Int) ≤ IntKind.i64.max := by
    have e1 : IntKind.i64.min = -9223372036854775808 := rfl
    have e2 : IntKind.i64.max = 9223372036854775807 := rfl
    rw [e1, e2]
    rw [show (2 : Nat) ^ 39 = 549755813888 from rfl] at ha
    omega
  exact if_pos h1
set_option maxRecDepth 10000 in
set_option maxHeartbeats 800000 in
theorem durHours (n a b : Nat) (X : Int) (hX : X = ((n * 1000000000 : Nat) : Int)) (hn : n < 360000) (ha : a = n * 1000000000 / 3600000000000) (hb : b = n * 1000000000 % 3600000000000) (hq : okQ 4794699203894837248 b = true) :
    ∃ r, CutsTo r a ∧ ∀ w, Calls Tryd.prog 20 #[.int .i64 X] w fun e w' => e = .returned (.float .f64 r) ∧ w = w' := by
  have ha39 : a < 2 ^ 39 := by rw [show (2 : Nat) ^ 39 = 549755813888 from rfl]; omega
  obtain ⟨q, r, hd, hs, hr⟩ := parts_ok a b 4794699203894837248 ha39 hq
  have t1 : Int.tdiv X 3600000000000 = (a : Int) := by rw [Int.tdiv_eq_ediv_of_nonneg (by omega)]; omega
  have t2 : Int.tmod X 3600000000000 = (b : Int) := by rw [Int.tmod_eq_emod_of_nonneg (by omega)]; omega
  have w1 : IntKind.i64.wrap (a : Int) = (a : Int) := by apply wrapI <;> omega
  have w2 : IntKind.i64.wrap (b : Int) = (b : Int) := by apply wrapI <;> omega
  obtain ⟨A, hA⟩ : ∃ A : Int, A = (a : Int) := ⟨_, rfl⟩
  obtain ⟨B, hB⟩ : ∃ B : Int, B = (b : Int) := ⟨_, rfl⟩
  have c1 := fun w => int_float w a A hA
  have c2 := fun w => int_float w b B hB
  rw [← hA] at t1 w1
  rw [← hB] at t2 w2
  obtain ⟨fa, hfa⟩ : ∃ fa, fa = Ieee.double.nearest false a 0 := ⟨_, rfl⟩
  obtain ⟨fb, hfb⟩ : ∃ fb, fb = Ieee.double.nearest false b 0 := ⟨_, rfl⟩
  rw [← hfa] at c1 hs
  rw [← hfb] at c2 hd
  have c3 := fun w => run_float_arith (P := Tryd.prog) w .quo 54 .f64 fb 4794699203894837248 q hd
  have c4 := fun w => run_float_arith (P := Tryd.prog) w .add 54 .f64 fa q r hs
  refine ⟨r, hr, fun w => ?_⟩
  clear hr hs hd hfa hfb hA hB hX ha hb hq ha39 hn
  go_enter Tryd.func20, Tryd.ntmps20
  go_wp2_with fail
  go_ret
  exact ⟨rfl, rfl⟩
set_option maxRecDepth 10000 in
set_option maxHeartbeats 800000 in
theorem durMinutes (n a b : Nat) (X : Int) (hX : X = ((n * 1000000000 : Nat) : Int)) (hn : n < 360000) (ha : a = n * 1000000000 / 60000000000) (hb : b = n * 1000000000 % 60000000000) (hq : okQ 4768169126130614272 b = true) :
    ∃ r, CutsTo r a ∧ ∀ w, Calls Tryd.prog 21 #[.int .i64 X] w fun e w' => e = .returned (.float .f64 r) ∧ w = w' := by
  have ha39 : a < 2 ^ 39 := by rw [show (2 : Nat) ^ 39 = 549755813888 from rfl]; omega
  obtain ⟨q, r, hd, hs, hr⟩ := parts_ok a b 4768169126130614272 ha39 hq
  have t1 : Int.tdiv X 60000000000 = (a : Int) := by rw [Int.tdiv_eq_ediv_of_nonneg (by omega)]; omega
  have t2 : Int.tmod X 60000000000 = (b : Int) := by rw [Int.tmod_eq_emod_of_nonneg (by omega)]; omega
  have w1 : IntKind.i64.wrap (a : Int) = (a : Int) := by apply wrapI <;> omega
  have w2 : IntKind.i64.wrap (b : Int) = (b : Int) := by apply wrapI <;> omega
  obtain ⟨A, hA⟩ : ∃ A : Int, A = (a : Int) := ⟨_, rfl⟩
  obtain ⟨B, hB⟩ : ∃ B : Int, B = (b : Int) := ⟨_, rfl⟩
  have c1 := fun w => int_float w a A hA
  have c2 := fun w => int_float w b B hB
  rw [← hA] at t1 w1
  rw [← hB] at t2 w2
  obtain ⟨fa, hfa⟩ : ∃ fa, fa = Ieee.double.nearest false a 0 := ⟨_, rfl⟩
  obtain ⟨fb, hfb⟩ : ∃ fb, fb = Ieee.double.nearest false b 0 := ⟨_, rfl⟩
  rw [← hfa] at c1 hs
  rw [← hfb] at c2 hd
  have c3 := fun w => run_float_arith (P := Tryd.prog) w .quo 54 .f64 fb 4768169126130614272 q hd
  have c4 := fun w => run_float_arith (P := Tryd.prog) w .add 54 .f64 fa q r hs
  refine ⟨r, hr, fun w => ?_⟩
  clear hr hs hd hfa hfb hA hB hX ha hb hq ha39 hn
  go_enter Tryd.func21, Tryd.ntmps21
  go_wp2_with fail
  go_ret
  exact ⟨rfl, rfl⟩
set_option maxRecDepth 10000 in
set_option maxHeartbeats 800000 in
theorem durSeconds (n a b : Nat) (X : Int) (hX : X = ((n * 1000000000 : Nat) : Int)) (hn : n < 360000) (ha : a = n * 1000000000 / 1000000000) (hb : b = n * 1000000000 % 1000000000) (hq : okQ 4741671816366391296 b = true) :
    ∃ r, CutsTo r a ∧ ∀ w, Calls Tryd.prog 22 #[.int .i64 X] w fun e w' => e = .returned (.float .f64 r) ∧ w = w' := by
  have ha39 : a < 2 ^ 39 := by rw [show (2 : Nat) ^ 39 = 549755813888 from rfl]; omega
  obtain ⟨q, r, hd, hs, hr⟩ := parts_ok a b 4741671816366391296 ha39 hq
  have t1 : Int.tdiv X 1000000000 = (a : Int) := by rw [Int.tdiv_eq_ediv_of_nonneg (by omega)]; omega
  have t2 : Int.tmod X 1000000000 = (b : Int) := by rw [Int.tmod_eq_emod_of_nonneg (by omega)]; omega
  have w1 : IntKind.i64.wrap (a : Int) = (a : Int) := by apply wrapI <;> omega
  have w2 : IntKind.i64.wrap (b : Int) = (b : Int) := by apply wrapI <;> omega
  obtain ⟨A, hA⟩ : ∃ A : Int, A = (a : Int) := ⟨_, rfl⟩
  obtain ⟨B, hB⟩ : ∃ B : Int, B = (b : Int) := ⟨_, rfl⟩
  have c1 := fun w => int_float w a A hA
  have c2 := fun w => int_float w b B hB
  rw [← hA] at t1 w1
  rw [← hB] at t2 w2
  obtain ⟨fa, hfa⟩ : ∃ fa, fa = Ieee.double.nearest false a 0 := ⟨_, rfl⟩
  obtain ⟨fb, hfb⟩ : ∃ fb, fb = Ieee.double.nearest false b 0 := ⟨_, rfl⟩
  rw [← hfa] at c1 hs
  rw [← hfb] at c2 hd
  have c3 := fun w => run_float_arith (P := Tryd.prog) w .quo 54 .f64 fb 4741671816366391296 q hd
  have c4 := fun w => run_float_arith (P := Tryd.prog) w .add 54 .f64 fa q r hs
  refine ⟨r, hr, fun w => ?_⟩
  clear hr hs hd hfa hfb hA hB hX ha hb hq ha39 hn
  go_enter Tryd.func22, Tryd.ntmps22
  go_wp2_with fail
  go_ret
  exact ⟨rfl, rfl⟩
theorem dec_at (n : Nat) (h : n < 100) : Lib.decDigits n = if n < 10 then [dg n] else digs 2 n := by
  rw [Lib.decDigits]
  by_cases h10 : n < 10
  · rw [dif_pos h10, if_pos h10]; rfl
  · rw [dif_neg h10, if_neg h10, Lib.decDigits, dif_pos (by omega), digs2 n h]; rfl
set_option maxRecDepth 10000 in
set_option maxHeartbeats 800000 in
theorem zzPad1 (w : World) (N : Int) (hN : ¬ N < 0) (s1 s2 : ByteArray) (hs : s1.size = 1) (hs2 : s2.size = 2) (a1 : (⟨#[48]⟩ : ByteArray) ++ s1 = s2) (a2 : (⟨#[]⟩ : ByteArray) ++ s2 = s2)
    (HF : Hid (∀ w, Calls Tryd.prog 30 #[.int .i64 N, .int .i64 10] w fun e w' => e = .returned (.string s1) ∧ w = w')) :
    Calls Tryd.prog 23 #[.int .i64 N, .int .i64 2] w fun e w' => e = .returned (.string s2) ∧ Keeps (fun _ => False) w w' := by
  go_enter Tryd.func23, Tryd.ntmps23
  go_wp2_with fail
  refine (HF.out _).mono ?_
  rintro e w1 ⟨rfl, rfl⟩
  go_wp2_with fail
  refine wp_loop_rounds 2 ?_
  rw [rounds_succ]
  go_wp2_with fail
  rw [rounds_succ]
  go_wp2_with fail
  go_ret
  exact ⟨rfl, Keeps.refl _ _⟩
set_option maxRecDepth 10000 in
set_option maxHeartbeats 800000 in
theorem zzPad2 (w : World) (N : Int) (hN : ¬ N < 0) (s2 : ByteArray) (hs2 : s2.size = 2) (a2 : (⟨#[]⟩ : ByteArray) ++ s2 = s2)
    (HF : Hid (∀ w, Calls Tryd.prog 30 #[.int .i64 N, .int .i64 10] w fun e w' => e = .returned (.string s2) ∧ w = w')) :
    Calls Tryd.prog 23 #[.int .i64 N, .int .i64 2] w fun e w' => e = .returned (.string s2) ∧ Keeps (fun _ => False) w w' := by
  go_enter Tryd.func23, Tryd.ntmps23
  go_wp2_with fail
  refine (HF.out _).mono ?_
  rintro e w1 ⟨rfl, rfl⟩
  go_wp2_with fail
  refine wp_loop_rounds 1 ?_
  rw [rounds_succ]
  go_wp2_with fail
  go_ret
  exact ⟨rfl, Keeps.refl _ _⟩
theorem nil_app (s : ByteArray) : (⟨#[]⟩ : ByteArray) ++ s = s := by
  apply ByteArray.ext
  rw [ByteArray.data_append]
  simp
theorem zzPad (w : World) (n : Nat) (h : n < 100) : Calls Tryd.prog 23 #[.int .i64 (n : Int), .int .i64 2] w fun e w' => e = .returned (.string (sOf (digs 2 n))) ∧ Keeps (fun _ => False) w w' := by
  have hf : ∀ w, Calls Tryd.prog 30 #[.int .i64 (n : Int), .int .i64 10] w fun e w' => e = .returned (.string (sOf (Lib.decDigits n))) ∧ w = w' := fun w => (Tryd.strconv_FormatInt_10_small n h w).mono fun e w' ⟨h1, h2⟩ => ⟨h1, h2.symm⟩
  rw [dec_at n h] at hf
  by_cases h10 : n < 10
  · rw [if_pos h10] at hf
    refine zzPad1 w (n : Int) (by omega) _ _ (by rw [sOf_size]; rfl) (by rw [sOf_size, digs_length]) ?_ (nil_app _) (Lib.hid hf)
    rw [digs2 n h, Nat.div_eq_of_lt h10, Nat.mod_eq_of_lt h10]
    exact sOf_app [48] [dg n]
  · rw [if_neg h10] at hf
    exact zzPad2 w (n : Int) (by omega) _ (by rw [sOf_size, digs_length]) (nil_app _) (Lib.hid hf)
set_option maxRecDepth 10000 in
set_option maxHeartbeats 1600000 in
theorem time32V (w : World) (N X H M S M6 S6 : Int) (f1 f2 f3 : Nat) (s1 s2 s3 t2 t3 t4 t5 : ByteArray) (e0 : IntKind.i64.wrap N = N) (e1 : IntKind.i64.wrap (N * 1000000000) = X)
    (c1 : ∀ w, (convert 54 3 (.float .f64 f1)).run Tryd.prog w = .ok (.int .i64 H) w) (c2 : ∀ w, (convert 54 3 (.float .f64 f2)).run Tryd.prog w = .ok (.int .i64 M) w) (c3 : ∀ w, (convert 54 3 (.float .f64 f3)).run Tryd.prog w = .ok (.int .i64 S) w)
    (m1 : Int.tmod M 60 = M6) (m2 : Int.tmod S 60 = S6) (w1 : IntKind.i64.wrap H = H) (w2 : IntKind.i64.wrap M6 = M6) (w3 : IntKind.i64.wrap S6 = S6)
    (HH : Hid (∀ w, Calls Tryd.prog 20 #[.int .i64 X] w fun e w' => e = .returned (.float .f64 f1) ∧ w = w')) (HM : Hid (∀ w, Calls Tryd.prog 21 #[.int .i64 X] w fun e w' => e = .returned (.float .f64 f2) ∧ w = w')) (HS : Hid (∀ w, Calls Tryd.prog 22 #[.int .i64 X] w fun e w' => e = .returned (.float .f64 f3) ∧ w = w'))
    (HA : Hid (∀ w, Calls Tryd.prog 23 #[.int .i64 H, .int .i64 2] w fun e w' => e = .returned (.string s1) ∧ Keeps (fun _ => False) w w')) (HB : Hid (∀ w, Calls Tryd.prog 23 #[.int .i64 M6, .int .i64 2] w fun e w' => e = .returned (.string s2) ∧ Keeps (fun _ => False) w w')) (HC : Hid (∀ w, Calls Tryd.prog 23 #[.int .i64 S6, .int .i64 2] w fun e w' => e = .returned (.string s3) ∧ Keeps (fun _ => False) w w'))
    (a1 : s1 ++ (⟨#[58]⟩ : ByteArray) = t2) (a2 : t2 ++ s2 = t3) (a3 : t3 ++ (⟨#[58]⟩ : ByteArray) = t4) (a4 : t4 ++ s3 = t5) (z1 : s1.size = 2) (z2 : s2.size = 2) (z3 : s3.size = 2) (z4 : t2.size = 3) (z5 : t3.size = 5) (z6 : t4.size = 6) :
    Calls Tryd.prog 13 #[.int .i32 N] w fun e w' => e = .returned (.string t5) ∧ Keeps (fun _ => False) w w' := by
  go_enter Tryd.func13, Tryd.ntmps13
  go_wp2_with fail
  refine (HH.out _).mono ?_
  rintro e w0 ⟨rfl, rfl⟩
  go_wp2_with fail
  refine (HM.out _).mono ?_
  rintro e w0 ⟨rfl, rfl⟩
  go_wp2_with fail
  refine (HS.out _).mono ?_
  rintro e w0 ⟨rfl, rfl⟩
  go_wp2_with fail
  refine (HA.out _).mono ?_
  rintro e wa ⟨rfl, KA⟩
  go_wp2_with fail
  refine (HB.out _).mono ?_
  rintro e wb ⟨rfl, KB⟩
  go_wp2_with fail
  refine (HC.out _).mono ?_
  rintro e wc ⟨rfl, KC⟩
  go_wp2_with fail
  go_ret
  exact ⟨rfl, (KA.trans KB (fun _ _ h => h)).trans KC (fun _ _ h => h)⟩
theorem time32 (w : World) (n : Nat) (h : n < 360000) :
    Calls Tryd.prog 13 #[.int .i32 (n : Int)] w fun e w' => e = .returned (.string (sOf (tt n))) ∧ Keeps (fun _ => False) w w' := by
  have l1 := digs_length 2 (n / 3600)
  have l2 := digs_length 2 (n / 60 % 60)
  have l3 := digs_length 2 (n % 60)
  have m1 : n % 3600 < 3600 := by omega
  have m2 : n % 60 < 60 := by omega
  have q1 : okQ 4794699203894837248 (n % 3600 * 1000000000) = true := okQ_hour (n % 3600) m1
  have q2 : okQ 4768169126130614272 (n % 60 * 1000000000) = true := List.all_eq_true.1 okQ_minutes (n % 60) (List.mem_range.2 m2)
  obtain ⟨f1, k1, g1⟩ := durHours n (n / 3600) (n % 3600 * 1000000000) _ rfl h (by omega) (by omega) q1
  obtain ⟨f2, k2, g2⟩ := durMinutes n (n / 60) (n % 60 * 1000000000) _ rfl h (by omega) (by omega) q2
  obtain ⟨f3, k3, g3⟩ := durSeconds n n 0 _ rfl h (by omega) (by omega) okQ_seconds
  have p39 : (2 : Nat) ^ 39 = 549755813888 := rfl
  refine time32V w n ((n * 1000000000 : Nat) : Int) ((n / 3600 : Nat) : Int) ((n / 60 : Nat) : Int) (n : Int) ((n / 60 % 60 : Nat) : Int) ((n % 60 : Nat) : Int) f1 f2 f3 (sOf (digs 2 (n / 3600))) (sOf (digs 2 (n / 60 % 60))) (sOf (digs 2 (n % 60))) (sOf (digs 2 (n / 3600) ++ [58])) (sOf (digs 2 (n / 3600) ++ [58] ++ digs 2 (n / 60 % 60))) (sOf (digs 2 (n / 3600) ++ [58] ++ digs 2 (n / 60 % 60) ++ [58])) _
    ?_ ?_ (fun w => float_int w k1 (by omega)) (fun w => float_int w k2 (by omega)) (fun w => float_int w k3 (by omega)) ?_ ?_ ?_ ?_ ?_ (Lib.hid g1) (Lib.hid g2) (Lib.hid g3)
    (Lib.hid fun w => zzPad w (n / 3600) (by omega)) (Lib.hid fun w => zzPad w (n / 60 % 60) (by omega)) (Lib.hid fun w => zzPad w (n % 60) (by omega)) (sOf_app _ _) (sOf_app _ _) (sOf_app _ _) (sOf_app _ _) ?_ ?_ ?_ ?_ ?_ ?_
  · apply wrapI <;> omega
  · rw [show (n : Int) * 1000000000 = ((n * 1000000000 : Nat) : Int) by omega]; apply wrapI <;> omega
  · rw [Int.tmod_eq_emod_of_nonneg (by omega)]; omega
  · rw [Int.tmod_eq_emod_of_nonneg (by omega)]; omega
  · apply wrapI <;> omega
  · apply wrapI <;> omega
  · apply wrapI <;> omega
  · rw [sOf_size, l1]
  · rw [sOf_size, l2]
  · rw [sOf_size, l3]
  · rw [sOf_size, List.length_append, l1]; rfl
  · rw [sOf_size, List.length_append, List.length_append, l1, l2]; rfl
  · rw [sOf_size, List.length_append, List.length_append, List.length_append, l1, l2]; rfl
set_option maxRecDepth 10000 in
theorem tmText32 (w : World) (s : ByteArray) (N : Int) (hp : Ret 13 #[.int .i32 N] (.string s)) :
    Calls Tryd.prog 9 #[.int .i32 N] w fun e w' => e = .returned (.string s) ∧ Keeps (fun _ => False) w w' := by
  have HP := Lib.hid hp
  clear hp
  go_enter Tryd.func9, Tryd.ntmps9
  go_wp2_with fail
  refine (HP.out _).mono ?_
  rintro e w1 ⟨rfl, K1⟩
  go_wp2_with fail
  go_ret
  exact ⟨rfl, K1⟩
theorem parse32 (w : World) (n : Nat) (hn : n < 360000) :
    Calls Tryd.prog 14 #[.string (sOf (tt n))] w fun e w' => e = .returned (.tuple #[.int .i32 (n : Int), .nilIface]) ∧ Keeps (fun _ => False) w w' := by
  have hsp := ret_split (digs 2 (n / 3600)) (digs 2 (n / 60 % 60)) (digs 2 (n % 60)) (by rw [← tt_shape, tt_size]; omega) (digs_not (by decide)) (digs_not (by decide)) (digs_not (by decide))
  rw [← tt_shape] at hsp
  have two : ∀ m, m < 100 → Ret 18 #[.string (sOf (digs 2 m))] (.tuple #[.int .i64 (m : Int), .nilIface]) := fun m hm => ret_atoi _ m (by rw [digs_length]; omega) (by rw [digs_length]; omega) (digs_digit 2 m) (dec2 hm)
  refine parse32V w _ (sOf []) (sOf []) _ _ _ ((n / 3600 : Nat) : Int) ((n / 60 % 60 : Nat) : Int) ((n % 60 : Nat) : Int) (n : Int) hsp (two _ (by omega)) (two _ (by omega)) (two _ (by omega)) ?_ ?_ ?_ ?_ ?_
  · apply wrapI <;> omega
  · apply wrapI <;> omega
  · apply wrapI <;> omega
  · rw [show ((n / 3600 : Nat) : Int) * 3600 + ((n / 60 % 60 : Nat) : Int) * 60 + ((n % 60 : Nat) : Int) = (n : Int) by omega]
    apply wrapI <;> omega
  · rw [IntKind.wrap_i32]; omega
set_option maxRecDepth 10000 in
set_option maxHeartbeats 800000 in
theorem textLawV (w : World) (T N : Int) (s : ByteArray) (t1 : Int.tmod T 360000 = N) (t2 : IntKind.u32.wrap N = N) (t3 : IntKind.i64.wrap N = N) (t4 : IntKind.i32.wrap N = N)
    (hA : Ret 9 #[.int .i32 N] (.string s)) (hB : Ret 10 #[.string s] (.tuple #[.int .i32 N, .bool true])) (hC : Ret 7 #[.int .i64 N] (.string s)) :
    Calls Tryd.prog 4 #[.int .u32 T] w fun e w' => e = .returned (.bool true) ∧ Below w.heap.size w w' := by
  have HA := Lib.hid hA
  have HB := Lib.hid hB
  have HC := Lib.hid hC
  clear hA hB hC
  go_enter Tryd.func4, Tryd.ntmps4
  go_wp2_with fail
  refine (HA.out _).mono ?_
  rintro e w1 ⟨rfl, K1⟩
  go_wp2_with fail
  refine (HB.out _).mono ?_
  rintro e w2 ⟨rfl, K2⟩
  go_wp2_with fail
  refine (HC.out _).mono ?_
  rintro e w3 ⟨rfl, K3⟩
  go_wp2_with fail
  go_ret
  exact ⟨rfl, ((K1.trans K2 (fun _ _ h => h)).trans K3 (fun _ _ h => h)).below (Nat.le_refl _) (fun _ h => h.elim)⟩
theorem tmTextWalk (w : World) (a0 : Int) (h0 : 0 ≤ a0) (h0u : a0 ≤ 4294967295) :
    Calls Tryd.prog 4 #[.int .u32 a0] w fun e w' => e = .returned (.bool true) ∧ Below w.heap.size w w' := by
  obtain ⟨T, rfl⟩ := Int.eq_ofNat_of_zero_le h0
  obtain ⟨n, hn⟩ : ∃ n, n = T % 360000 := ⟨_, rfl⟩
  have hn0 : n < 360000 := by omega
  refine textLawV w T (n : Int) (sOf (tt n)) ?_ ?_ ?_ ?_ (fun w => tmText32 w _ _ (fun w => time32 w n hn0)) (fun w => tmParse32V w _ _ (fun w => parse32 w n hn0)) (fun w => tmText w n hn0)
  · rw [Int.tmod_eq_emod_of_nonneg (by omega)]; omega
  · rw [IntKind.wrap_u32]; omega
  · apply wrapI <;> omega
  · rw [IntKind.wrap_i32]; omega
end Go.Proofs.YtlfbmjgmdcfbkaaDoor
