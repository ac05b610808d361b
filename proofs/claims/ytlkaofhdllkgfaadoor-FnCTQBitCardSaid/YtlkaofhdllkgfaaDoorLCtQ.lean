/- A type of vectors parsed whole; FnCTQBit's walk. Conditions: the numbers' own sizes; what the table of spaces holds. -/
import Derived.Test.YtlkaofhdllkgfaaDoorCtR
import Derived.RegionTactic
import Derived.MakeChecks
namespace Go.Proofs.YtlkaofhdllkgfaaDoor
open Go.RowKit Go.Lib
set_option linter.unusedVariables false
set_option maxRecDepth 10000 in
set_option maxHeartbeats 1600000 in
theorem parseQ0 (w : World) (s el p2 d : ByteArray) (N : Int) (hN : 0 < N)
    (hB : ∀ w, Calls Tryd.prog 8 #[.string s] w fun e w' => e = .returned (.string ⟨#[81, 66, 105, 116]⟩) ∧ w = w') (hE : ∀ w, Calls Tryd.prog 10 #[.string s] w fun e w' => e = .returned (.string el) ∧ w = w')
    (hS : ∀ w, Calls Tryd.prog 11 #[.string el, .string ⟨#[44]⟩] w fun e w' => ∃ A c, e = .returned (.slice A 2 c) ∧ w'.ownsRow w.heap.size 9 1 (.slice A 2 c) 2 [.string ⟨#[66, 70, 108, 111, 97, 116, 49, 54]⟩, .string p2] ∧ Keeps (fun _ => False) w w')
    (hT1 : ∀ w, SpaceV w → Calls Tryd.prog 12 #[.string ⟨#[66, 70, 108, 111, 97, 116, 49, 54]⟩] w fun e w' => e = .returned (.string ⟨#[66, 70, 108, 111, 97, 116, 49, 54]⟩) ∧ Keeps (fun _ => False) w w') (hT2 : ∀ w, SpaceV w → Calls Tryd.prog 12 #[.string p2] w fun e w' => e = .returned (.string d) ∧ Keeps (fun _ => False) w w')
    (hA : Ret 13 #[.string d] (.tuple #[.int .i64 N, .nilIface])) (hw : SpaceV w) :
    Calls Tryd.prog 7 #[.string s] w fun e w' => e = .returned (.tuple #[.string ⟨#[66, 70, 108, 111, 97, 116, 49, 54]⟩, .int .i64 N, .nilIface]) ∧ Keeps (fun _ => False) w w' := by
  have HB := Lib.hid hB
  have HE := Lib.hid hE
  have HS := Lib.hid hS
  have HT1 := Lib.hid hT1
  have HT2 := Lib.hid hT2
  have HA := Lib.hid hA
  have HW := Lib.hid hw
  have g1 : ¬ (N ≤ 0) := by omega
  clear hB hE hS hT1 hT2 hA hw
  go_enter Tryd.func7, Tryd.ntmps7
  go_wp2_with fail
  refine (HB.out _).mono ?_
  rintro e w1 ⟨rfl, rfl⟩
  go_wp2_with fail
  refine (HE.out _).mono ?_
  rintro e w1 ⟨rfl, rfl⟩
  go_wp2_with fail
  refine (HS.out _).mono ?_
  rintro e w2 ⟨A, cc, rfl, o2, K2⟩
  obtain ⟨g, rfl, hg, c0, c1⟩ := two_cells o2
  have HK2 := Lib.hid K2
  clear o2 K2
  go_wp2_with fail
  refine (HT1.out _ (HW.out.keeps HK2.out)).mono ?_
  rintro e w3 ⟨rfl, K3⟩
  have c1 := cell_kept c1 hg K3
  have HK3 := Lib.hid (HK2.out.trans K3 (fun _ _ h => h))
  clear K3 c0
  go_wp2_with fail
  refine (HT2.out _ (HW.out.keeps HK3.out)).mono ?_
  rintro e w4 ⟨rfl, K4⟩
  have HK4 := Lib.hid (HK3.out.trans K4 (fun _ _ h => h))
  clear K4 c1 hg
  go_wp2_with fail
  refine (HA.out _).mono ?_
  rintro e w5 ⟨rfl, K5⟩
  have HK5 := Lib.hid (HK4.out.trans K5 (fun _ _ h => h))
  clear K5
  go_wp2_with fail
  go_ret3
  exact ⟨rfl, HK5.out⟩
set_option maxRecDepth 10000 in
set_option maxHeartbeats 1600000 in
theorem parseQ1 (w : World) (s el p2 d : ByteArray) (N : Int) (hN : 0 < N)
    (hB : ∀ w, Calls Tryd.prog 8 #[.string s] w fun e w' => e = .returned (.string ⟨#[81, 66, 105, 116]⟩) ∧ w = w') (hE : ∀ w, Calls Tryd.prog 10 #[.string s] w fun e w' => e = .returned (.string el) ∧ w = w')
    (hS : ∀ w, Calls Tryd.prog 11 #[.string el, .string ⟨#[44]⟩] w fun e w' => ∃ A c, e = .returned (.slice A 2 c) ∧ w'.ownsRow w.heap.size 9 1 (.slice A 2 c) 2 [.string ⟨#[70, 108, 111, 97, 116, 51, 50]⟩, .string p2] ∧ Keeps (fun _ => False) w w')
    (hT1 : ∀ w, SpaceV w → Calls Tryd.prog 12 #[.string ⟨#[70, 108, 111, 97, 116, 51, 50]⟩] w fun e w' => e = .returned (.string ⟨#[70, 108, 111, 97, 116, 51, 50]⟩) ∧ Keeps (fun _ => False) w w') (hT2 : ∀ w, SpaceV w → Calls Tryd.prog 12 #[.string p2] w fun e w' => e = .returned (.string d) ∧ Keeps (fun _ => False) w w')
    (hA : Ret 13 #[.string d] (.tuple #[.int .i64 N, .nilIface])) (hw : SpaceV w) :
    Calls Tryd.prog 7 #[.string s] w fun e w' => e = .returned (.tuple #[.string ⟨#[70, 108, 111, 97, 116, 51, 50]⟩, .int .i64 N, .nilIface]) ∧ Keeps (fun _ => False) w w' := by
  have HB := Lib.hid hB
  have HE := Lib.hid hE
  have HS := Lib.hid hS
  have HT1 := Lib.hid hT1
  have HT2 := Lib.hid hT2
  have HA := Lib.hid hA
  have HW := Lib.hid hw
  have g1 : ¬ (N ≤ 0) := by omega
  clear hB hE hS hT1 hT2 hA hw
  go_enter Tryd.func7, Tryd.ntmps7
  go_wp2_with fail
  refine (HB.out _).mono ?_
  rintro e w1 ⟨rfl, rfl⟩
  go_wp2_with fail
  refine (HE.out _).mono ?_
  rintro e w1 ⟨rfl, rfl⟩
  go_wp2_with fail
  refine (HS.out _).mono ?_
  rintro e w2 ⟨A, cc, rfl, o2, K2⟩
  obtain ⟨g, rfl, hg, c0, c1⟩ := two_cells o2
  have HK2 := Lib.hid K2
  clear o2 K2
  go_wp2_with fail
  refine (HT1.out _ (HW.out.keeps HK2.out)).mono ?_
  rintro e w3 ⟨rfl, K3⟩
  have c1 := cell_kept c1 hg K3
  have HK3 := Lib.hid (HK2.out.trans K3 (fun _ _ h => h))
  clear K3 c0
  go_wp2_with fail
  refine (HT2.out _ (HW.out.keeps HK3.out)).mono ?_
  rintro e w4 ⟨rfl, K4⟩
  have HK4 := Lib.hid (HK3.out.trans K4 (fun _ _ h => h))
  clear K4 c1 hg
  go_wp2_with fail
  refine (HA.out _).mono ?_
  rintro e w5 ⟨rfl, K5⟩
  have HK5 := Lib.hid (HK4.out.trans K5 (fun _ _ h => h))
  clear K5
  go_wp2_with fail
  go_ret3
  exact ⟨rfl, HK5.out⟩
set_option maxRecDepth 10000 in
set_option maxHeartbeats 1600000 in
theorem parseQ2 (w : World) (s el p2 d : ByteArray) (N : Int) (hN : 0 < N)
    (hB : ∀ w, Calls Tryd.prog 8 #[.string s] w fun e w' => e = .returned (.string ⟨#[81, 66, 105, 116]⟩) ∧ w = w') (hE : ∀ w, Calls Tryd.prog 10 #[.string s] w fun e w' => e = .returned (.string el) ∧ w = w')
    (hS : ∀ w, Calls Tryd.prog 11 #[.string el, .string ⟨#[44]⟩] w fun e w' => ∃ A c, e = .returned (.slice A 2 c) ∧ w'.ownsRow w.heap.size 9 1 (.slice A 2 c) 2 [.string ⟨#[70, 108, 111, 97, 116, 54, 52]⟩, .string p2] ∧ Keeps (fun _ => False) w w')
    (hT1 : ∀ w, SpaceV w → Calls Tryd.prog 12 #[.string ⟨#[70, 108, 111, 97, 116, 54, 52]⟩] w fun e w' => e = .returned (.string ⟨#[70, 108, 111, 97, 116, 54, 52]⟩) ∧ Keeps (fun _ => False) w w') (hT2 : ∀ w, SpaceV w → Calls Tryd.prog 12 #[.string p2] w fun e w' => e = .returned (.string d) ∧ Keeps (fun _ => False) w w')
    (hA : Ret 13 #[.string d] (.tuple #[.int .i64 N, .nilIface])) (hw : SpaceV w) :
    Calls Tryd.prog 7 #[.string s] w fun e w' => e = .returned (.tuple #[.string ⟨#[70, 108, 111, 97, 116, 54, 52]⟩, .int .i64 N, .nilIface]) ∧ Keeps (fun _ => False) w w' := by
  have HB := Lib.hid hB
  have HE := Lib.hid hE
  have HS := Lib.hid hS
  have HT1 := Lib.hid hT1
  have HT2 := Lib.hid hT2
  have HA := Lib.hid hA
  have HW := Lib.hid hw
  have g1 : ¬ (N ≤ 0) := by omega
  clear hB hE hS hT1 hT2 hA hw
  go_enter Tryd.func7, Tryd.ntmps7
  go_wp2_with fail
  refine (HB.out _).mono ?_
  rintro e w1 ⟨rfl, rfl⟩
  go_wp2_with fail
  refine (HE.out _).mono ?_
  rintro e w1 ⟨rfl, rfl⟩
  go_wp2_with fail
  refine (HS.out _).mono ?_
  rintro e w2 ⟨A, cc, rfl, o2, K2⟩
  obtain ⟨g, rfl, hg, c0, c1⟩ := two_cells o2
  have HK2 := Lib.hid K2
  clear o2 K2
  go_wp2_with fail
  refine (HT1.out _ (HW.out.keeps HK2.out)).mono ?_
  rintro e w3 ⟨rfl, K3⟩
  have c1 := cell_kept c1 hg K3
  have HK3 := Lib.hid (HK2.out.trans K3 (fun _ _ h => h))
  clear K3 c0
  go_wp2_with fail
  refine (HT2.out _ (HW.out.keeps HK3.out)).mono ?_
  rintro e w4 ⟨rfl, K4⟩
  have HK4 := Lib.hid (HK3.out.trans K4 (fun _ _ h => h))
  clear K4 c1 hg
  go_wp2_with fail
  refine (HA.out _).mono ?_
  rintro e w5 ⟨rfl, K5⟩
  have HK5 := Lib.hid (HK4.out.trans K5 (fun _ _ h => h))
  clear K5
  go_wp2_with fail
  go_ret3
  exact ⟨rfl, HK5.out⟩
set_option maxRecDepth 10000 in
theorem ctqV (w : World) (s b : ByteArray) (N : Int) (h : Calls Tryd.prog 7 #[.string s] w fun e w' => e = .returned (.tuple #[.string b, .int .i64 N, .nilIface]) ∧ Keeps (fun _ => False) w w') :
    Calls Tryd.prog 4 #[.string s] w fun e w' => e = .returned (.tuple #[.string b, .int .i64 N, .bool true]) ∧ Keeps (fun _ => False) w w' := by
  have HP := Lib.hid h
  clear h
  go_enter Tryd.func4, Tryd.ntmps4
  go_wp2_with fail
  refine (HP.out).mono ?_
  rintro e w1 ⟨rfl, K1⟩
  have K2 := K1.drew
  go_wp2_with fail
  all_goals
    go_region
    all_goals
      go_wp2_with fail
      go_ret3
      exact ⟨rfl, K2⟩
theorem slCT (s : ByteArray) (i j : Nat) (I J : Int) (hI : I = i) (hJ : J = j) (h1 : i ≤ j) (h2 : j ≤ s.size) (w : World) : (Instr.slice 29 (.string s) (some (.int .i64 I)) (some (.int .i64 J)) none).run Tryd.prog w = .ok (.string (s.extract i j)) w := by
  subst hI hJ
  exact run_slice_string (P := Tryd.prog) w 29 s .i64 .i64 i j Tryd.underlying29 (by omega) (by omega) (by omega)
theorem slCTto (s : ByteArray) (j : Nat) (J : Int) (hJ : J = j) (h2 : j ≤ s.size) (w : World) : (Instr.slice 29 (.string s) none (some (.int .i64 J)) none).run Tryd.prog w = .ok (.string (s.extract 0 j)) w := by
  subst hJ
  exact run_slice_string_h (P := Tryd.prog) w 29 (s := s) Tryd.underlying29 .i64 j (by omega) (by omega)
theorem base_of (E D : List UInt8) (hl : (qt E D).length ≤ 1000) (w : World) : Calls Tryd.prog 8 #[.string (sOf (qt E D))] w fun e w' => e = .returned (.string ⟨#[81, 66, 105, 116]⟩) ∧ w = w' := by
  have hq := qt_len E D
  refine baseV w _ _ (E.length + D.length + 7) (full_str (by rw [sOf_size]; omega)) (by omega) (by omega) (idx40 E D hl) (idx41 E D hl) (fun w => ?_)
  exact (slCTto (sOf (qt E D)) 4 4 rfl (by rw [sOf_size]; omega) w).trans (by rw [qt_base])
theorem elem_of (E D : List UInt8) (hl : (qt E D).length ≤ 1000) (w : World) : Calls Tryd.prog 10 #[.string (sOf (qt E D))] w fun e w' => e = .returned (.string (sOf (E ++ 44 :: 32 :: D))) ∧ w = w' := by
  have hq := qt_len E D
  refine elemV w _ _ (E.length + D.length + 7) (full_str (by rw [sOf_size]; omega)) (by omega) (by omega) (idx40 E D hl) (idx41 E D hl) (fun w => ?_)
  exact (slCT (sOf (qt E D)) 5 (E.length + D.length + 7) 5 _ rfl rfl (by omega) (by rw [sOf_size]; omega) w).trans (by rw [qt_elem])
theorem ctS_qt (E D : List UInt8) : ctS ⟨#[81, 66, 105, 116]⟩ [sOf E, sOf D] = sOf (qt E D) := by
  unfold ctS qt
  simp [Lib.join, sOf]
theorem no44 (D : List UInt8) (hd : ∀ x ∈ D, 48 ≤ x.toNat ∧ x.toNat ≤ 57) : ∀ x ∈ (32 :: D), ¬ x = (44 : UInt8) := by
  intro x hx
  rcases List.mem_cons.1 hx with rfl | hx
  · decide
  · rintro rfl
    have := hd _ hx
    revert this
    decide
theorem ctq0 (w : World) (D : List UInt8) (n : Nat) (h0 : 0 < D.length) (hl : D.length ≤ 6) (hd : ∀ x ∈ D, 48 ≤ x.toNat ∧ x.toNat ≤ 57) (hv : Lib.decFrom 0 D = some n) (hn : 0 < n) (hw : SpaceV w) :
    Calls Tryd.prog 4 #[.string (ctS ⟨#[81, 66, 105, 116]⟩ [⟨#[66, 70, 108, 111, 97, 116, 49, 54]⟩, sOf D])] w fun e w' => e = .returned (.tuple #[.string ⟨#[66, 70, 108, 111, 97, 116, 49, 54]⟩, .int .i64 (n : Int), .bool true]) ∧ Keeps (fun _ => False) w w' := by
  have hqt : ctS ⟨#[81, 66, 105, 116]⟩ [⟨#[66, 70, 108, 111, 97, 116, 49, 54]⟩, sOf D] = sOf (qt [66, 70, 108, 111, 97, 116, 49, 54] D) := ctS_qt [66, 70, 108, 111, 97, 116, 49, 54] D
  have hq := qt_len [66, 70, 108, 111, 97, 116, 49, 54] D
  have hlen : (qt [66, 70, 108, 111, 97, 116, 49, 54] D).length ≤ 1000 := by rw [hq]; simp; omega
  rw [hqt]
  refine ctqV w _ _ _ (parseQ0 w _ (sOf ([66, 70, 108, 111, 97, 116, 49, 54] ++ 44 :: 32 :: D)) (sOf (32 :: D)) (sOf D) (n : Int) (by omega) (base_of [66, 70, 108, 111, 97, 116, 49, 54] D hlen) (elem_of [66, 70, 108, 111, 97, 116, 49, 54] D hlen) (split2 [66, 70, 108, 111, 97, 116, 49, 54] (32 :: D) (by simp; omega) (by decide) (no44 D hd)) (trim [66, 70, 108, 111, 97, 116, 49, 54] [66, 70, 108, 111, 97, 116, 49, 54] (by decide) (by decide) (by decide))
    (trim (32 :: D) D (by simp; omega) (fun x hx => ?_) (trim_dec D h0 hd)) (ret_atoi D n h0 (by omega) hd hv) hw)
  rcases List.mem_cons.1 hx with rfl | hx
  · decide
  · have := hd x hx
    omega
set_option maxRecDepth 10000 in
set_option maxHeartbeats 1600000 in
theorem lawQ0 (w : World) (M T : Int) (n : Nat) (D : List UInt8) (h0 : 0 < D.length) (hl : D.length ≤ 6) (hd : ∀ x ∈ D, 48 ≤ x.toNat ∧ x.toNat ≤ 57) (hv : Lib.decFrom 0 D = some n) (hn : 0 < n) (hn2 : n ≤ 5000) (hw : SpaceV w)
    (hD : ∀ w, Calls Tryd.prog 6 #[.int .i64 (n : Int)] w fun e w' => e = .returned (.string (sOf D)) ∧ Keeps (fun _ => False) w w')
    (m1 : Int.tmod M 3 = 0) (t1 : IntKind.i64.wrap T = T) (t2 : Int.tmod T 5000 = (n : Int) - 1) :
    Calls Tryd.prog 3 #[.int .u8 M, .int .u16 T] w fun e w' => e = .returned (.bool true) ∧ Below w.heap.size w w' := by
  have t3 : IntKind.i64.wrap ((n : Int) - 1) = (n : Int) - 1 := by apply wrapI <;> omega
  have t4 : 1 + ((n : Int) - 1) = (n : Int) := by omega
  have t5 : IntKind.i64.wrap (n : Int) = (n : Int) := by apply wrapI <;> omega
  have HD := Lib.hid hD
  have HQ := Lib.hid (fun w hw => ctq0 w D n h0 hl hd hv hn hw)
  have HW := Lib.hid hw
  have HX : Hid (∀ x ∈ [(⟨#[66, 70, 108, 111, 97, 116, 49, 54]⟩ : ByteArray), sOf D], x.size ≤ 100000) := Lib.hid (by
    intro x hx
    rcases List.mem_cons.1 hx with rfl | hx
    · exact (show (_ : Nat) ≤ 100000 by decide)
    · rcases List.mem_singleton.1 hx with rfl
      rw [sOf_size]
      omega)
  have K0 := Lib.hid ((Keeps.refl (fun _ => False) w).alloc (.cells #[.string ⟨#[66, 70, 108, 111, 97, 116, 49, 54]⟩, .string ⟨#[70, 108, 111, 97, 116, 51, 50]⟩, .string ⟨#[70, 108, 111, 97, 116, 54, 52]⟩] 9))
  clear hD hw h0 hl hd hv
  generalize sOf D = dd at *
  go_enter Tryd.func3, Tryd.ntmps3
  go_wp2_with fail
  refine (HD.out _).mono ?_
  rintro e w1 ⟨rfl, K1⟩
  have HK1 := Lib.hid (K0.out.trans K1 (fun _ _ h => h))
  have HK2 := Lib.hid ((HK1.out).alloc (.cells #[.string ⟨#[66, 70, 108, 111, 97, 116, 49, 54]⟩, .string dd] 9))
  have hS : SRow (w1.alloc (.cells #[.string ⟨#[66, 70, 108, 111, 97, 116, 49, 54]⟩, .string dd] 9)) w1.heap.size [⟨#[66, 70, 108, 111, 97, 116, 49, 54]⟩, dd] := SRow.whole (Whole.new w1 _ _) (by
    intro j x hx
    match j, hx with
    | 0, hx => simp at hx; subst hx; rfl
    | 1, hx => simp at hx; subst hx; rfl
    | j + 2, hx => simp at hx)
  have HS := Lib.hid hS
  clear K1 hS
  go_wp2_with fail
  refine (ctOf _ ⟨#[81, 66, 105, 116]⟩ w1.heap.size 2 2 [⟨#[66, 70, 108, 111, 97, 116, 49, 54]⟩, dd] rfl HS.out (by omega) (show (4 : Nat) ≤ 100000 by omega) HX.out).mono ?_
  rintro e w2 ⟨rfl, rfl⟩
  have HQ2 := Lib.hid (HQ.out _ (HW.out.keeps HK2.out))
  go_wp2_with fail
  refine HQ2.out.mono ?_
  rintro e w3 ⟨rfl, K3⟩
  have HK3 := Lib.hid (HK2.out.trans K3 (fun _ _ h => h))
  clear K3
  go_wp2_with fail
  go_ret
  exact ⟨rfl, HK3.out.below (Nat.le_refl _) (fun _ h => h.elim)⟩
theorem ctq1 (w : World) (D : List UInt8) (n : Nat) (h0 : 0 < D.length) (hl : D.length ≤ 6) (hd : ∀ x ∈ D, 48 ≤ x.toNat ∧ x.toNat ≤ 57) (hv : Lib.decFrom 0 D = some n) (hn : 0 < n) (hw : SpaceV w) :
    Calls Tryd.prog 4 #[.string (ctS ⟨#[81, 66, 105, 116]⟩ [⟨#[70, 108, 111, 97, 116, 51, 50]⟩, sOf D])] w fun e w' => e = .returned (.tuple #[.string ⟨#[70, 108, 111, 97, 116, 51, 50]⟩, .int .i64 (n : Int), .bool true]) ∧ Keeps (fun _ => False) w w' := by
  have hqt : ctS ⟨#[81, 66, 105, 116]⟩ [⟨#[70, 108, 111, 97, 116, 51, 50]⟩, sOf D] = sOf (qt [70, 108, 111, 97, 116, 51, 50] D) := ctS_qt [70, 108, 111, 97, 116, 51, 50] D
  have hq := qt_len [70, 108, 111, 97, 116, 51, 50] D
  have hlen : (qt [70, 108, 111, 97, 116, 51, 50] D).length ≤ 1000 := by rw [hq]; simp; omega
  rw [hqt]
  refine ctqV w _ _ _ (parseQ1 w _ (sOf ([70, 108, 111, 97, 116, 51, 50] ++ 44 :: 32 :: D)) (sOf (32 :: D)) (sOf D) (n : Int) (by omega) (base_of [70, 108, 111, 97, 116, 51, 50] D hlen) (elem_of [70, 108, 111, 97, 116, 51, 50] D hlen) (split2 [70, 108, 111, 97, 116, 51, 50] (32 :: D) (by simp; omega) (by decide) (no44 D hd)) (trim [70, 108, 111, 97, 116, 51, 50] [70, 108, 111, 97, 116, 51, 50] (by decide) (by decide) (by decide))
    (trim (32 :: D) D (by simp; omega) (fun x hx => ?_) (trim_dec D h0 hd)) (ret_atoi D n h0 (by omega) hd hv) hw)
  rcases List.mem_cons.1 hx with rfl | hx
  · decide
  · have := hd x hx
    omega
set_option maxRecDepth 10000 in
set_option maxHeartbeats 1600000 in
theorem lawQ1 (w : World) (M T : Int) (n : Nat) (D : List UInt8) (h0 : 0 < D.length) (hl : D.length ≤ 6) (hd : ∀ x ∈ D, 48 ≤ x.toNat ∧ x.toNat ≤ 57) (hv : Lib.decFrom 0 D = some n) (hn : 0 < n) (hn2 : n ≤ 5000) (hw : SpaceV w)
    (hD : ∀ w, Calls Tryd.prog 6 #[.int .i64 (n : Int)] w fun e w' => e = .returned (.string (sOf D)) ∧ Keeps (fun _ => False) w w')
    (m1 : Int.tmod M 3 = 1) (t1 : IntKind.i64.wrap T = T) (t2 : Int.tmod T 5000 = (n : Int) - 1) :
    Calls Tryd.prog 3 #[.int .u8 M, .int .u16 T] w fun e w' => e = .returned (.bool true) ∧ Below w.heap.size w w' := by
  have t3 : IntKind.i64.wrap ((n : Int) - 1) = (n : Int) - 1 := by apply wrapI <;> omega
  have t4 : 1 + ((n : Int) - 1) = (n : Int) := by omega
  have t5 : IntKind.i64.wrap (n : Int) = (n : Int) := by apply wrapI <;> omega
  have HD := Lib.hid hD
  have HQ := Lib.hid (fun w hw => ctq1 w D n h0 hl hd hv hn hw)
  have HW := Lib.hid hw
  have HX : Hid (∀ x ∈ [(⟨#[70, 108, 111, 97, 116, 51, 50]⟩ : ByteArray), sOf D], x.size ≤ 100000) := Lib.hid (by
    intro x hx
    rcases List.mem_cons.1 hx with rfl | hx
    · exact (show (_ : Nat) ≤ 100000 by decide)
    · rcases List.mem_singleton.1 hx with rfl
      rw [sOf_size]
      omega)
  have K0 := Lib.hid ((Keeps.refl (fun _ => False) w).alloc (.cells #[.string ⟨#[66, 70, 108, 111, 97, 116, 49, 54]⟩, .string ⟨#[70, 108, 111, 97, 116, 51, 50]⟩, .string ⟨#[70, 108, 111, 97, 116, 54, 52]⟩] 9))
  clear hD hw h0 hl hd hv
  generalize sOf D = dd at *
  go_enter Tryd.func3, Tryd.ntmps3
  go_wp2_with fail
  refine (HD.out _).mono ?_
  rintro e w1 ⟨rfl, K1⟩
  have HK1 := Lib.hid (K0.out.trans K1 (fun _ _ h => h))
  have HK2 := Lib.hid ((HK1.out).alloc (.cells #[.string ⟨#[70, 108, 111, 97, 116, 51, 50]⟩, .string dd] 9))
  have hS : SRow (w1.alloc (.cells #[.string ⟨#[70, 108, 111, 97, 116, 51, 50]⟩, .string dd] 9)) w1.heap.size [⟨#[70, 108, 111, 97, 116, 51, 50]⟩, dd] := SRow.whole (Whole.new w1 _ _) (by
    intro j x hx
    match j, hx with
    | 0, hx => simp at hx; subst hx; rfl
    | 1, hx => simp at hx; subst hx; rfl
    | j + 2, hx => simp at hx)
  have HS := Lib.hid hS
  clear K1 hS
  go_wp2_with fail
  refine (ctOf _ ⟨#[81, 66, 105, 116]⟩ w1.heap.size 2 2 [⟨#[70, 108, 111, 97, 116, 51, 50]⟩, dd] rfl HS.out (by omega) (show (4 : Nat) ≤ 100000 by omega) HX.out).mono ?_
  rintro e w2 ⟨rfl, rfl⟩
  have HQ2 := Lib.hid (HQ.out _ (HW.out.keeps HK2.out))
  go_wp2_with fail
  refine HQ2.out.mono ?_
  rintro e w3 ⟨rfl, K3⟩
  have HK3 := Lib.hid (HK2.out.trans K3 (fun _ _ h => h))
  clear K3
  go_wp2_with fail
  go_ret
  exact ⟨rfl, HK3.out.below (Nat.le_refl _) (fun _ h => h.elim)⟩
theorem ctq2 (w : World) (D : List UInt8) (n : Nat) (h0 : 0 < D.length) (hl : D.length ≤ 6) (hd : ∀ x ∈ D, 48 ≤ x.toNat ∧ x.toNat ≤ 57) (hv : Lib.decFrom 0 D = some n) (hn : 0 < n) (hw : SpaceV w) :
    Calls Tryd.prog 4 #[.string (ctS ⟨#[81, 66, 105, 116]⟩ [⟨#[70, 108, 111, 97, 116, 54, 52]⟩, sOf D])] w fun e w' => e = .returned (.tuple #[.string ⟨#[70, 108, 111, 97, 116, 54, 52]⟩, .int .i64 (n : Int), .bool true]) ∧ Keeps (fun _ => False) w w' := by
  have hqt : ctS ⟨#[81, 66, 105, 116]⟩ [⟨#[70, 108, 111, 97, 116, 54, 52]⟩, sOf D] = sOf (qt [70, 108, 111, 97, 116, 54, 52] D) := ctS_qt [70, 108, 111, 97, 116, 54, 52] D
  have hq := qt_len [70, 108, 111, 97, 116, 54, 52] D
  have hlen : (qt [70, 108, 111, 97, 116, 54, 52] D).length ≤ 1000 := by rw [hq]; simp; omega
  rw [hqt]
  refine ctqV w _ _ _ (parseQ2 w _ (sOf ([70, 108, 111, 97, 116, 54, 52] ++ 44 :: 32 :: D)) (sOf (32 :: D)) (sOf D) (n : Int) (by omega) (base_of [70, 108, 111, 97, 116, 54, 52] D hlen) (elem_of [70, 108, 111, 97, 116, 54, 52] D hlen) (split2 [70, 108, 111, 97, 116, 54, 52] (32 :: D) (by simp; omega) (by decide) (no44 D hd)) (trim [70, 108, 111, 97, 116, 54, 52] [70, 108, 111, 97, 116, 54, 52] (by decide) (by decide) (by decide))
    (trim (32 :: D) D (by simp; omega) (fun x hx => ?_) (trim_dec D h0 hd)) (ret_atoi D n h0 (by omega) hd hv) hw)
  rcases List.mem_cons.1 hx with rfl | hx
  · decide
  · have := hd x hx
    omega
set_option maxRecDepth 10000 in
set_option maxHeartbeats 1600000 in
theorem lawQ2 (w : World) (M T : Int) (n : Nat) (D : List UInt8) (h0 : 0 < D.length) (hl : D.length ≤ 6) (hd : ∀ x ∈ D, 48 ≤ x.toNat ∧ x.toNat ≤ 57) (hv : Lib.decFrom 0 D = some n) (hn : 0 < n) (hn2 : n ≤ 5000) (hw : SpaceV w)
    (hD : ∀ w, Calls Tryd.prog 6 #[.int .i64 (n : Int)] w fun e w' => e = .returned (.string (sOf D)) ∧ Keeps (fun _ => False) w w')
    (m1 : Int.tmod M 3 = 2) (t1 : IntKind.i64.wrap T = T) (t2 : Int.tmod T 5000 = (n : Int) - 1) :
    Calls Tryd.prog 3 #[.int .u8 M, .int .u16 T] w fun e w' => e = .returned (.bool true) ∧ Below w.heap.size w w' := by
  have t3 : IntKind.i64.wrap ((n : Int) - 1) = (n : Int) - 1 := by apply wrapI <;> omega
  have t4 : 1 + ((n : Int) - 1) = (n : Int) := by omega
  have t5 : IntKind.i64.wrap (n : Int) = (n : Int) := by apply wrapI <;> omega
  have HD := Lib.hid hD
  have HQ := Lib.hid (fun w hw => ctq2 w D n h0 hl hd hv hn hw)
  have HW := Lib.hid hw
  have HX : Hid (∀ x ∈ [(⟨#[70, 108, 111, 97, 116, 54, 52]⟩ : ByteArray), sOf D], x.size ≤ 100000) := Lib.hid (by
    intro x hx
    rcases List.mem_cons.1 hx with rfl | hx
    · exact (show (_ : Nat) ≤ 100000 by decide)
    · rcases List.mem_singleton.1 hx with rfl
      rw [sOf_size]
      omega)
  have K0 := Lib.hid ((Keeps.refl (fun _ => False) w).alloc (.cells #[.string ⟨#[66, 70, 108, 111, 97, 116, 49, 54]⟩, .string ⟨#[70, 108, 111, 97, 116, 51, 50]⟩, .string ⟨#[70, 108, 111, 97, 116, 54, 52]⟩] 9))
  clear hD hw h0 hl hd hv
  generalize sOf D = dd at *
  go_enter Tryd.func3, Tryd.ntmps3
  go_wp2_with fail
  refine (HD.out _).mono ?_
  rintro e w1 ⟨rfl, K1⟩
  have HK1 := Lib.hid (K0.out.trans K1 (fun _ _ h => h))
  have HK2 := Lib.hid ((HK1.out).alloc (.cells #[.string ⟨#[70, 108, 111, 97, 116, 54, 52]⟩, .string dd] 9))
  have hS : SRow (w1.alloc (.cells #[.string ⟨#[70, 108, 111, 97, 116, 54, 52]⟩, .string dd] 9)) w1.heap.size [⟨#[70, 108, 111, 97, 116, 54, 52]⟩, dd] := SRow.whole (Whole.new w1 _ _) (by
    intro j x hx
    match j, hx with
    | 0, hx => simp at hx; subst hx; rfl
    | 1, hx => simp at hx; subst hx; rfl
    | j + 2, hx => simp at hx)
  have HS := Lib.hid hS
  clear K1 hS
  go_wp2_with fail
  refine (ctOf _ ⟨#[81, 66, 105, 116]⟩ w1.heap.size 2 2 [⟨#[70, 108, 111, 97, 116, 54, 52]⟩, dd] rfl HS.out (by omega) (show (4 : Nat) ≤ 100000 by omega) HX.out).mono ?_
  rintro e w2 ⟨rfl, rfl⟩
  have HQ2 := Lib.hid (HQ.out _ (HW.out.keeps HK2.out))
  go_wp2_with fail
  refine HQ2.out.mono ?_
  rintro e w3 ⟨rfl, K3⟩
  have HK3 := Lib.hid (HK2.out.trans K3 (fun _ _ h => h))
  clear K3
  go_wp2_with fail
  go_ret
  exact ⟨rfl, HK3.out.below (Nat.le_refl _) (fun _ h => h.elim)⟩
theorem ctqWalk (w : World) (a0 a1 : Int) (h0 : 0 ≤ a0) (h0u : a0 ≤ 255) (h1 : 0 ≤ a1) (h1u : a1 ≤ 65535) (hw : SpaceV w) :
    Calls Tryd.prog 3 #[.int .u8 a0, .int .u16 a1] w fun e w' => e = .returned (.bool true) ∧ Below w.heap.size w w' := by
  obtain ⟨M, rfl⟩ := Int.eq_ofNat_of_zero_le h0
  obtain ⟨T, rfl⟩ := Int.eq_ofNat_of_zero_le h1
  obtain ⟨n, hn⟩ : ∃ n, n = 1 + T % 5000 := ⟨_, rfl⟩
  have hn2 : n ≤ 5000 := by omega
  obtain ⟨D, d0, d1, d2, d3, d4⟩ := decOk 4 n (by omega) (Nat.lt_of_le_of_lt hn2 (by decide))
  have t1 : IntKind.i64.wrap (T : Int) = (T : Int) := by apply wrapI <;> omega
  have t2 : Int.tmod (T : Int) 5000 = (n : Int) - 1 := by rw [Int.tmod_eq_emod_of_nonneg (by omega)]; omega
  have hM : Int.tmod (M : Int) 3 = ((M % 3 : Nat) : Int) := by rw [Int.tmod_eq_emod_of_nonneg (by omega)]; omega
  have m3 : M % 3 = 0 ∨ M % 3 = 1 ∨ M % 3 = 2 := by omega
  rcases m3 with e | e | e <;> rw [e] at hM
  · exact lawQ0 w _ _ n D d0 (by omega) d2 d3 (by omega) hn2 hw d4 hM t1 t2
  · exact lawQ1 w _ _ n D d0 (by omega) d2 d3 (by omega) hn2 hw d4 hM t1 t2
  · exact lawQ2 w _ _ n D d0 (by omega) d2 d3 (by omega) hn2 hw d4 hM t1 t2
theorem spaceV_met {w : World} (h : laidMetH Tryd.prog [("strings.asciiSpace", Lib.tabData .u8 Lib.asciiSpaceTab)] w) : SpaceV w := by
  rw [MakeChecks.laidMetH_plain _ _ _ (by rfl)] at h
  exact Lib.tabIs_of_head (show Tryd.prog.globalNamed "strings.asciiSpace" = some 0 by kernel_rfl) (show (Tryd.prog.globals[0]?).map (·.type) = some 47 by kernel_rfl) Tryd.underlying47 Tryd.underlying5 (by kernel_rfl) (by kernel_rfl) h
end Go.Proofs.YtlkaofhdllkgfaaDoor
