/- FnTMWrong's walk. Conditions: the numbers' own sizes; what the variable ErrSyntax holds. -/
import Derived.Test.YtlfbmjgmdcfbkaaDoorTmW
namespace Go.Proofs.YtlfbmjgmdcfbkaaDoor
open Go.RowKit Go.Lib
set_option linter.unusedVariables false
set_option maxRecDepth 10000 in
theorem tmParse32E (w : World) (s : ByteArray) (h : ∀ w, SynV w → Calls Tryd.prog 14 #[.string s] w fun e w' => FailE (.int .i32 0) e ∧ Keeps (fun _ => False) w w') (hw : SynV w) :
    Calls Tryd.prog 10 #[.string s] w fun e w' => e = .returned (.tuple #[.int .i32 0, .bool false]) ∧ Keeps (fun _ => False) w w' := by
  have HP := Lib.hid (h w hw)
  clear h hw
  go_enter Tryd.func10, Tryd.ntmps10
  go_wp2_with fail
  refine (HP.out).mono ?_
  rintro e w1 ⟨⟨N, rfl⟩, K1⟩
  have K2 := K1.drew
  go_wp2_with fail
  all_goals
    go_region
    all_goals
      go_wp2_with fail
      go_ret2
      exact ⟨rfl, K2⟩
set_option maxRecDepth 10000 in
theorem tmParse64E (w : World) (s : ByteArray) (h : ∀ w, SynV w → Calls Tryd.prog 11 #[.string s] w fun e w' => FailE (.int .i64 0) e ∧ Keeps (fun _ => False) w w') (hw : SynV w) :
    Calls Tryd.prog 6 #[.string s] w fun e w' => e = .returned (.tuple #[.int .i64 0, .bool false]) ∧ Keeps (fun _ => False) w w' := by
  have HP := Lib.hid (h w hw)
  clear h hw
  go_enter Tryd.func6, Tryd.ntmps6
  go_wp2_with fail
  refine (HP.out).mono ?_
  rintro e w1 ⟨⟨N, rfl⟩, K1⟩
  have K2 := K1.drew
  go_wp2_with fail
  all_goals
    go_region
    all_goals
      go_wp2_with fail
      go_ret2
      exact ⟨rfl, K2⟩
set_option maxRecDepth 10000 in
theorem tmParse32V (w : World) (s : ByteArray) (n : Int) (hp : Ret 14 #[.string s] (.tuple #[.int .i32 n, .nilIface])) :
    Calls Tryd.prog 10 #[.string s] w fun e w' => e = .returned (.tuple #[.int .i32 n, .bool true]) ∧ Keeps (fun _ => False) w w' := by
  have HP := Lib.hid hp
  clear hp
  go_enter Tryd.func10, Tryd.ntmps10
  go_wp2_with fail
  refine (HP.out _).mono ?_
  rintro e w1 ⟨rfl, K1⟩
  have K2 := K1.drew
  go_wp2_with fail
  all_goals
    go_region
    all_goals
      go_wp2_with fail
      go_ret2
      exact ⟨rfl, K2⟩
theorem conv_let {q : Nat} {c : UInt8} (h : c.toNat = 97 + q) (w : World) : (convert 33 9 (.slice (some ⟨w.heap.size, 0, none⟩) 1 1)).run Tryd.prog (w.alloc (.cells #[.int .u8 (97 + (q : Int))] 5)).drew = .ok (.string (sOf [c])) (w.alloc (.cells #[.int .u8 (97 + (q : Int))] 5)).drew := by
  refine run_str_rd Tryd.underlying33 Tryd.underlying5 Tryd.underlying9 (l := [c]) (n := 1) ?_
  have := rd_one w 5 (.int .u8 (97 + (q : Int)))
  have e : [Value.int .u8 (97 + (q : Int))] = Lib.byteCells [c] := by simp [Lib.byteCells, h]
  rw [← e]
  exact this.drew
set_option maxRecDepth 10000 in
set_option maxHeartbeats 1600000 in
theorem wrong0 (w : World) (T M G N R : Int) (q : Nat) (hq : q < 26) (c : UInt8) (hcq : c.toNat = 97 + q) (s0 pre post s1 s2 s3 : ByteArray)
    (t1 : Int.tmod T 360000 = N) (t2 : IntKind.u32.wrap N = N) (t3 : IntKind.i64.wrap N = N) (m1 : Int.tmod M 6 = 0) (g1 : Int.tmod G 26 = (q : Int))
    (hpre : ∀ w, (Instr.slice 9 (.string s0) none (some (.int .i64 0)) none).run Tryd.prog w = .ok (.string pre) w)
    (hpost : ∀ w, (Instr.slice 9 (.string s0) (some (.int .i64 1)) none none).run Tryd.prog w = .ok (.string post) w)
    (a1 : pre ++ sOf [c] = s1) (a2 : s1 ++ post = s2) (a3 : s2 ++ (⟨#[46, 53]⟩ : ByteArray) = s3) (z0 : s0.size = 8) (z1 : pre.size = 0) (z2 : s1.size = 1) (z3 : post.size = 7) (z4 : s2.size = 8)
    (hT : Ret 7 #[.int .i64 N] (.string s0)) (hE : ∀ w, SynV w → Calls Tryd.prog 10 #[.string s2] w fun e w' => e = .returned (.tuple #[.int .i32 0, .bool false]) ∧ Keeps (fun _ => False) w w')
    (hF : ∀ w, SynV w → Calls Tryd.prog 6 #[.string s3] w fun e w' => e = .returned (.tuple #[.int .i64 0, .bool false]) ∧ Keeps (fun _ => False) w w') (hG : Ret 10 #[.string s0] (.tuple #[.int .i32 R, .bool true])) (hw : SynV w) :
    Calls Tryd.prog 5 #[.int .u32 T, .int .u8 M, .int .u8 G] w fun e w' => e = .returned (.bool true) ∧ Below w.heap.size w w' := by
  have HT := Lib.hid hT
  have HE := Lib.hid hE
  have HF := Lib.hid hF
  have HG := Lib.hid hG
  have HW := Lib.hid hw
  have e3 : IntKind.u8.wrap (q : Int) = (q : Int) := by rw [IntKind.wrap_u8]; omega
  have e4 : IntKind.u8.wrap (97 + (q : Int)) = 97 + (q : Int) := by rw [IntKind.wrap_u8]; omega
  have hcv := fun w => conv_let hcq w
  clear hT hE hF hG hw hq hcq
  go_enter Tryd.func5, Tryd.ntmps5
  go_wp2_with fail
  refine (HT.out _).mono ?_
  rintro e w1 ⟨rfl, K1⟩
  have HK1 := Lib.hid K1
  have hc1 := hcv (w1.alloc (.cells #[.int .i64 0, .int .i64 1, .int .i64 3, .int .i64 4, .int .i64 6, .int .i64 7] 3))
  rw [World.size_alloc] at hc1
  have K2 := Lib.hid (((K1.alloc (.cells #[.int .i64 0, .int .i64 1, .int .i64 3, .int .i64 4, .int .i64 6, .int .i64 7] 3)).alloc (.cells #[.int .u8 (97 + (q : Int))] 5)).drew)
  clear hcv K1
  go_wp2_with fail
  go_region
  all_goals
    go_wp2_with fail
    refine (HE.out _ (HW.out.keeps K2.out)).mono ?_
    rintro e w3 ⟨rfl, K3⟩
    have K4 := Lib.hid (K2.out.trans K3 (fun _ _ h => h))
    clear K3
    go_wp2_with fail
    refine (HF.out _ (HW.out.keeps K4.out)).mono ?_
    rintro e w5 ⟨rfl, K5⟩
    have K6 := Lib.hid (K4.out.trans K5 (fun _ _ h => h))
    clear K5
    go_wp2_with fail
    refine (HG.out _).mono ?_
    rintro e w7 ⟨rfl, K7⟩
    have K8 := Lib.hid (K6.out.trans K7 (fun _ _ h => h))
    clear K7
    go_wp2_with fail
    go_ret
    exact ⟨rfl, K8.out.below (Nat.le_refl _) (fun _ h => h.elim)⟩
set_option maxRecDepth 10000 in
set_option maxHeartbeats 1600000 in
theorem wrong1 (w : World) (T M G N R : Int) (q : Nat) (hq : q < 26) (c : UInt8) (hcq : c.toNat = 97 + q) (s0 pre post s1 s2 s3 : ByteArray)
    (t1 : Int.tmod T 360000 = N) (t2 : IntKind.u32.wrap N = N) (t3 : IntKind.i64.wrap N = N) (m1 : Int.tmod M 6 = 1) (g1 : Int.tmod G 26 = (q : Int))
    (hpre : ∀ w, (Instr.slice 9 (.string s0) none (some (.int .i64 1)) none).run Tryd.prog w = .ok (.string pre) w)
    (hpost : ∀ w, (Instr.slice 9 (.string s0) (some (.int .i64 2)) none none).run Tryd.prog w = .ok (.string post) w)
    (a1 : pre ++ sOf [c] = s1) (a2 : s1 ++ post = s2) (a3 : s2 ++ (⟨#[46, 53]⟩ : ByteArray) = s3) (z0 : s0.size = 8) (z1 : pre.size = 1) (z2 : s1.size = 2) (z3 : post.size = 6) (z4 : s2.size = 8)
    (hT : Ret 7 #[.int .i64 N] (.string s0)) (hE : ∀ w, SynV w → Calls Tryd.prog 10 #[.string s2] w fun e w' => e = .returned (.tuple #[.int .i32 0, .bool false]) ∧ Keeps (fun _ => False) w w')
    (hF : ∀ w, SynV w → Calls Tryd.prog 6 #[.string s3] w fun e w' => e = .returned (.tuple #[.int .i64 0, .bool false]) ∧ Keeps (fun _ => False) w w') (hG : Ret 10 #[.string s0] (.tuple #[.int .i32 R, .bool true])) (hw : SynV w) :
    Calls Tryd.prog 5 #[.int .u32 T, .int .u8 M, .int .u8 G] w fun e w' => e = .returned (.bool true) ∧ Below w.heap.size w w' := by
  have HT := Lib.hid hT
  have HE := Lib.hid hE
  have HF := Lib.hid hF
  have HG := Lib.hid hG
  have HW := Lib.hid hw
  have e3 : IntKind.u8.wrap (q : Int) = (q : Int) := by rw [IntKind.wrap_u8]; omega
  have e4 : IntKind.u8.wrap (97 + (q : Int)) = 97 + (q : Int) := by rw [IntKind.wrap_u8]; omega
  have hcv := fun w => conv_let hcq w
  clear hT hE hF hG hw hq hcq
  go_enter Tryd.func5, Tryd.ntmps5
  go_wp2_with fail
  refine (HT.out _).mono ?_
  rintro e w1 ⟨rfl, K1⟩
  have HK1 := Lib.hid K1
  have hc1 := hcv (w1.alloc (.cells #[.int .i64 0, .int .i64 1, .int .i64 3, .int .i64 4, .int .i64 6, .int .i64 7] 3))
  rw [World.size_alloc] at hc1
  have K2 := Lib.hid (((K1.alloc (.cells #[.int .i64 0, .int .i64 1, .int .i64 3, .int .i64 4, .int .i64 6, .int .i64 7] 3)).alloc (.cells #[.int .u8 (97 + (q : Int))] 5)).drew)
  clear hcv K1
  go_wp2_with fail
  go_region
  all_goals
    go_wp2_with fail
    refine (HE.out _ (HW.out.keeps K2.out)).mono ?_
    rintro e w3 ⟨rfl, K3⟩
    have K4 := Lib.hid (K2.out.trans K3 (fun _ _ h => h))
    clear K3
    go_wp2_with fail
    refine (HF.out _ (HW.out.keeps K4.out)).mono ?_
    rintro e w5 ⟨rfl, K5⟩
    have K6 := Lib.hid (K4.out.trans K5 (fun _ _ h => h))
    clear K5
    go_wp2_with fail
    refine (HG.out _).mono ?_
    rintro e w7 ⟨rfl, K7⟩
    have K8 := Lib.hid (K6.out.trans K7 (fun _ _ h => h))
    clear K7
    go_wp2_with fail
    go_ret
    exact ⟨rfl, K8.out.below (Nat.le_refl _) (fun _ h => h.elim)⟩
set_option maxRecDepth 10000 in
set_option maxHeartbeats 1600000 in
theorem wrong2 (w : World) (T M G N R : Int) (q : Nat) (hq : q < 26) (c : UInt8) (hcq : c.toNat = 97 + q) (s0 pre post s1 s2 s3 : ByteArray)
    (t1 : Int.tmod T 360000 = N) (t2 : IntKind.u32.wrap N = N) (t3 : IntKind.i64.wrap N = N) (m1 : Int.tmod M 6 = 2) (g1 : Int.tmod G 26 = (q : Int))
    (hpre : ∀ w, (Instr.slice 9 (.string s0) none (some (.int .i64 3)) none).run Tryd.prog w = .ok (.string pre) w)
    (hpost : ∀ w, (Instr.slice 9 (.string s0) (some (.int .i64 4)) none none).run Tryd.prog w = .ok (.string post) w)
    (a1 : pre ++ sOf [c] = s1) (a2 : s1 ++ post = s2) (a3 : s2 ++ (⟨#[46, 53]⟩ : ByteArray) = s3) (z0 : s0.size = 8) (z1 : pre.size = 3) (z2 : s1.size = 4) (z3 : post.size = 4) (z4 : s2.size = 8)
    (hT : Ret 7 #[.int .i64 N] (.string s0)) (hE : ∀ w, SynV w → Calls Tryd.prog 10 #[.string s2] w fun e w' => e = .returned (.tuple #[.int .i32 0, .bool false]) ∧ Keeps (fun _ => False) w w')
    (hF : ∀ w, SynV w → Calls Tryd.prog 6 #[.string s3] w fun e w' => e = .returned (.tuple #[.int .i64 0, .bool false]) ∧ Keeps (fun _ => False) w w') (hG : Ret 10 #[.string s0] (.tuple #[.int .i32 R, .bool true])) (hw : SynV w) :
    Calls Tryd.prog 5 #[.int .u32 T, .int .u8 M, .int .u8 G] w fun e w' => e = .returned (.bool true) ∧ Below w.heap.size w w' := by
  have HT := Lib.hid hT
  have HE := Lib.hid hE
  have HF := Lib.hid hF
  have HG := Lib.hid hG
  have HW := Lib.hid hw
  have e3 : IntKind.u8.wrap (q : Int) = (q : Int) := by rw [IntKind.wrap_u8]; omega
  have e4 : IntKind.u8.wrap (97 + (q : Int)) = 97 + (q : Int) := by rw [IntKind.wrap_u8]; omega
  have hcv := fun w => conv_let hcq w
  clear hT hE hF hG hw hq hcq
  go_enter Tryd.func5, Tryd.ntmps5
  go_wp2_with fail
  refine (HT.out _).mono ?_
  rintro e w1 ⟨rfl, K1⟩
  have HK1 := Lib.hid K1
  have hc1 := hcv (w1.alloc (.cells #[.int .i64 0, .int .i64 1, .int .i64 3, .int .i64 4, .int .i64 6, .int .i64 7] 3))
  rw [World.size_alloc] at hc1
  have K2 := Lib.hid (((K1.alloc (.cells #[.int .i64 0, .int .i64 1, .int .i64 3, .int .i64 4, .int .i64 6, .int .i64 7] 3)).alloc (.cells #[.int .u8 (97 + (q : Int))] 5)).drew)
  clear hcv K1
  go_wp2_with fail
  go_region
  all_goals
    go_wp2_with fail
    refine (HE.out _ (HW.out.keeps K2.out)).mono ?_
    rintro e w3 ⟨rfl, K3⟩
    have K4 := Lib.hid (K2.out.trans K3 (fun _ _ h => h))
    clear K3
    go_wp2_with fail
    refine (HF.out _ (HW.out.keeps K4.out)).mono ?_
    rintro e w5 ⟨rfl, K5⟩
    have K6 := Lib.hid (K4.out.trans K5 (fun _ _ h => h))
    clear K5
    go_wp2_with fail
    refine (HG.out _).mono ?_
    rintro e w7 ⟨rfl, K7⟩
    have K8 := Lib.hid (K6.out.trans K7 (fun _ _ h => h))
    clear K7
    go_wp2_with fail
    go_ret
    exact ⟨rfl, K8.out.below (Nat.le_refl _) (fun _ h => h.elim)⟩
set_option maxRecDepth 10000 in
set_option maxHeartbeats 1600000 in
theorem wrong3 (w : World) (T M G N R : Int) (q : Nat) (hq : q < 26) (c : UInt8) (hcq : c.toNat = 97 + q) (s0 pre post s1 s2 s3 : ByteArray)
    (t1 : Int.tmod T 360000 = N) (t2 : IntKind.u32.wrap N = N) (t3 : IntKind.i64.wrap N = N) (m1 : Int.tmod M 6 = 3) (g1 : Int.tmod G 26 = (q : Int))
    (hpre : ∀ w, (Instr.slice 9 (.string s0) none (some (.int .i64 4)) none).run Tryd.prog w = .ok (.string pre) w)
    (hpost : ∀ w, (Instr.slice 9 (.string s0) (some (.int .i64 5)) none none).run Tryd.prog w = .ok (.string post) w)
    (a1 : pre ++ sOf [c] = s1) (a2 : s1 ++ post = s2) (a3 : s2 ++ (⟨#[46, 53]⟩ : ByteArray) = s3) (z0 : s0.size = 8) (z1 : pre.size = 4) (z2 : s1.size = 5) (z3 : post.size = 3) (z4 : s2.size = 8)
    (hT : Ret 7 #[.int .i64 N] (.string s0)) (hE : ∀ w, SynV w → Calls Tryd.prog 10 #[.string s2] w fun e w' => e = .returned (.tuple #[.int .i32 0, .bool false]) ∧ Keeps (fun _ => False) w w')
    (hF : ∀ w, SynV w → Calls Tryd.prog 6 #[.string s3] w fun e w' => e = .returned (.tuple #[.int .i64 0, .bool false]) ∧ Keeps (fun _ => False) w w') (hG : Ret 10 #[.string s0] (.tuple #[.int .i32 R, .bool true])) (hw : SynV w) :
    Calls Tryd.prog 5 #[.int .u32 T, .int .u8 M, .int .u8 G] w fun e w' => e = .returned (.bool true) ∧ Below w.heap.size w w' := by
  have HT := Lib.hid hT
  have HE := Lib.hid hE
  have HF := Lib.hid hF
  have HG := Lib.hid hG
  have HW := Lib.hid hw
  have e3 : IntKind.u8.wrap (q : Int) = (q : Int) := by rw [IntKind.wrap_u8]; omega
  have e4 : IntKind.u8.wrap (97 + (q : Int)) = 97 + (q : Int) := by rw [IntKind.wrap_u8]; omega
  have hcv := fun w => conv_let hcq w
  clear hT hE hF hG hw hq hcq
  go_enter Tryd.func5, Tryd.ntmps5
  go_wp2_with fail
  refine (HT.out _).mono ?_
  rintro e w1 ⟨rfl, K1⟩
  have HK1 := Lib.hid K1
  have hc1 := hcv (w1.alloc (.cells #[.int .i64 0, .int .i64 1, .int .i64 3, .int .i64 4, .int .i64 6, .int .i64 7] 3))
  rw [World.size_alloc] at hc1
  have K2 := Lib.hid (((K1.alloc (.cells #[.int .i64 0, .int .i64 1, .int .i64 3, .int .i64 4, .int .i64 6, .int .i64 7] 3)).alloc (.cells #[.int .u8 (97 + (q : Int))] 5)).drew)
  clear hcv K1
  go_wp2_with fail
  go_region
  all_goals
    go_wp2_with fail
    refine (HE.out _ (HW.out.keeps K2.out)).mono ?_
    rintro e w3 ⟨rfl, K3⟩
    have K4 := Lib.hid (K2.out.trans K3 (fun _ _ h => h))
    clear K3
    go_wp2_with fail
    refine (HF.out _ (HW.out.keeps K4.out)).mono ?_
    rintro e w5 ⟨rfl, K5⟩
    have K6 := Lib.hid (K4.out.trans K5 (fun _ _ h => h))
    clear K5
    go_wp2_with fail
    refine (HG.out _).mono ?_
    rintro e w7 ⟨rfl, K7⟩
    have K8 := Lib.hid (K6.out.trans K7 (fun _ _ h => h))
    clear K7
    go_wp2_with fail
    go_ret
    exact ⟨rfl, K8.out.below (Nat.le_refl _) (fun _ h => h.elim)⟩
set_option maxRecDepth 10000 in
set_option maxHeartbeats 1600000 in
theorem wrong4 (w : World) (T M G N R : Int) (q : Nat) (hq : q < 26) (c : UInt8) (hcq : c.toNat = 97 + q) (s0 pre post s1 s2 s3 : ByteArray)
    (t1 : Int.tmod T 360000 = N) (t2 : IntKind.u32.wrap N = N) (t3 : IntKind.i64.wrap N = N) (m1 : Int.tmod M 6 = 4) (g1 : Int.tmod G 26 = (q : Int))
    (hpre : ∀ w, (Instr.slice 9 (.string s0) none (some (.int .i64 6)) none).run Tryd.prog w = .ok (.string pre) w)
    (hpost : ∀ w, (Instr.slice 9 (.string s0) (some (.int .i64 7)) none none).run Tryd.prog w = .ok (.string post) w)
    (a1 : pre ++ sOf [c] = s1) (a2 : s1 ++ post = s2) (a3 : s2 ++ (⟨#[46, 53]⟩ : ByteArray) = s3) (z0 : s0.size = 8) (z1 : pre.size = 6) (z2 : s1.size = 7) (z3 : post.size = 1) (z4 : s2.size = 8)
    (hT : Ret 7 #[.int .i64 N] (.string s0)) (hE : ∀ w, SynV w → Calls Tryd.prog 10 #[.string s2] w fun e w' => e = .returned (.tuple #[.int .i32 0, .bool false]) ∧ Keeps (fun _ => False) w w')
    (hF : ∀ w, SynV w → Calls Tryd.prog 6 #[.string s3] w fun e w' => e = .returned (.tuple #[.int .i64 0, .bool false]) ∧ Keeps (fun _ => False) w w') (hG : Ret 10 #[.string s0] (.tuple #[.int .i32 R, .bool true])) (hw : SynV w) :
    Calls Tryd.prog 5 #[.int .u32 T, .int .u8 M, .int .u8 G] w fun e w' => e = .returned (.bool true) ∧ Below w.heap.size w w' := by
  have HT := Lib.hid hT
  have HE := Lib.hid hE
  have HF := Lib.hid hF
  have HG := Lib.hid hG
  have HW := Lib.hid hw
  have e3 : IntKind.u8.wrap (q : Int) = (q : Int) := by rw [IntKind.wrap_u8]; omega
  have e4 : IntKind.u8.wrap (97 + (q : Int)) = 97 + (q : Int) := by rw [IntKind.wrap_u8]; omega
  have hcv := fun w => conv_let hcq w
  clear hT hE hF hG hw hq hcq
  go_enter Tryd.func5, Tryd.ntmps5
  go_wp2_with fail
  refine (HT.out _).mono ?_
  rintro e w1 ⟨rfl, K1⟩
  have HK1 := Lib.hid K1
  have hc1 := hcv (w1.alloc (.cells #[.int .i64 0, .int .i64 1, .int .i64 3, .int .i64 4, .int .i64 6, .int .i64 7] 3))
  rw [World.size_alloc] at hc1
  have K2 := Lib.hid (((K1.alloc (.cells #[.int .i64 0, .int .i64 1, .int .i64 3, .int .i64 4, .int .i64 6, .int .i64 7] 3)).alloc (.cells #[.int .u8 (97 + (q : Int))] 5)).drew)
  clear hcv K1
  go_wp2_with fail
  go_region
  all_goals
    go_wp2_with fail
    refine (HE.out _ (HW.out.keeps K2.out)).mono ?_
    rintro e w3 ⟨rfl, K3⟩
    have K4 := Lib.hid (K2.out.trans K3 (fun _ _ h => h))
    clear K3
    go_wp2_with fail
    refine (HF.out _ (HW.out.keeps K4.out)).mono ?_
    rintro e w5 ⟨rfl, K5⟩
    have K6 := Lib.hid (K4.out.trans K5 (fun _ _ h => h))
    clear K5
    go_wp2_with fail
    refine (HG.out _).mono ?_
    rintro e w7 ⟨rfl, K7⟩
    have K8 := Lib.hid (K6.out.trans K7 (fun _ _ h => h))
    clear K7
    go_wp2_with fail
    go_ret
    exact ⟨rfl, K8.out.below (Nat.le_refl _) (fun _ h => h.elim)⟩
set_option maxRecDepth 10000 in
set_option maxHeartbeats 1600000 in
theorem wrong5 (w : World) (T M G N R : Int) (q : Nat) (hq : q < 26) (c : UInt8) (hcq : c.toNat = 97 + q) (s0 pre post s1 s2 s3 : ByteArray)
    (t1 : Int.tmod T 360000 = N) (t2 : IntKind.u32.wrap N = N) (t3 : IntKind.i64.wrap N = N) (m1 : Int.tmod M 6 = 5) (g1 : Int.tmod G 26 = (q : Int))
    (hpre : ∀ w, (Instr.slice 9 (.string s0) none (some (.int .i64 7)) none).run Tryd.prog w = .ok (.string pre) w)
    (hpost : ∀ w, (Instr.slice 9 (.string s0) (some (.int .i64 8)) none none).run Tryd.prog w = .ok (.string post) w)
    (a1 : pre ++ sOf [c] = s1) (a2 : s1 ++ post = s2) (a3 : s2 ++ (⟨#[46, 53]⟩ : ByteArray) = s3) (z0 : s0.size = 8) (z1 : pre.size = 7) (z2 : s1.size = 8) (z3 : post.size = 0) (z4 : s2.size = 8)
    (hT : Ret 7 #[.int .i64 N] (.string s0)) (hE : ∀ w, SynV w → Calls Tryd.prog 10 #[.string s2] w fun e w' => e = .returned (.tuple #[.int .i32 0, .bool false]) ∧ Keeps (fun _ => False) w w')
    (hF : ∀ w, SynV w → Calls Tryd.prog 6 #[.string s3] w fun e w' => e = .returned (.tuple #[.int .i64 0, .bool false]) ∧ Keeps (fun _ => False) w w') (hG : Ret 10 #[.string s0] (.tuple #[.int .i32 R, .bool true])) (hw : SynV w) :
    Calls Tryd.prog 5 #[.int .u32 T, .int .u8 M, .int .u8 G] w fun e w' => e = .returned (.bool true) ∧ Below w.heap.size w w' := by
  have HT := Lib.hid hT
  have HE := Lib.hid hE
  have HF := Lib.hid hF
  have HG := Lib.hid hG
  have HW := Lib.hid hw
  have e3 : IntKind.u8.wrap (q : Int) = (q : Int) := by rw [IntKind.wrap_u8]; omega
  have e4 : IntKind.u8.wrap (97 + (q : Int)) = 97 + (q : Int) := by rw [IntKind.wrap_u8]; omega
  have hcv := fun w => conv_let hcq w
  clear hT hE hF hG hw hq hcq
  go_enter Tryd.func5, Tryd.ntmps5
  go_wp2_with fail
  refine (HT.out _).mono ?_
  rintro e w1 ⟨rfl, K1⟩
  have HK1 := Lib.hid K1
  have hc1 := hcv (w1.alloc (.cells #[.int .i64 0, .int .i64 1, .int .i64 3, .int .i64 4, .int .i64 6, .int .i64 7] 3))
  rw [World.size_alloc] at hc1
  have K2 := Lib.hid (((K1.alloc (.cells #[.int .i64 0, .int .i64 1, .int .i64 3, .int .i64 4, .int .i64 6, .int .i64 7] 3)).alloc (.cells #[.int .u8 (97 + (q : Int))] 5)).drew)
  clear hcv K1
  go_wp2_with fail
  go_region
  all_goals
    go_wp2_with fail
    refine (HE.out _ (HW.out.keeps K2.out)).mono ?_
    rintro e w3 ⟨rfl, K3⟩
    have K4 := Lib.hid (K2.out.trans K3 (fun _ _ h => h))
    clear K3
    go_wp2_with fail
    refine (HF.out _ (HW.out.keeps K4.out)).mono ?_
    rintro e w5 ⟨rfl, K5⟩
    have K6 := Lib.hid (K4.out.trans K5 (fun _ _ h => h))
    clear K5
    go_wp2_with fail
    refine (HG.out _).mono ?_
    rintro e w7 ⟨rfl, K7⟩
    have K8 := Lib.hid (K6.out.trans K7 (fun _ _ h => h))
    clear K7
    go_wp2_with fail
    go_ret
    exact ⟨rfl, K8.out.below (Nat.le_refl _) (fun _ h => h.elim)⟩
theorem no_sep {a b : UInt8} {c : UInt8} (ha : ¬ a = c) (hb : ¬ b = c) : ∀ x ∈ [a, b], ¬ x = c := by
  intro x hx
  rcases List.mem_cons.1 hx with rfl | hx
  · exact ha
  · rcases List.mem_singleton.1 hx with rfl
    exact hb
theorem low_ne {x c : UInt8} (h : 48 ≤ x.toNat) (hc : c.toNat < 48 ∨ c.toNat = 58) (h2 : x.toNat ≤ 57 ∨ 97 ≤ x.toNat) : ¬ x = c := by
  rintro rfl
  omega
set_option maxRecDepth 10000 in
theorem wrongAt0 (w : World) (T M G : Int) (n m0 m1 m2 q : Nat) (c x0 x1 x2 x3 x4 x5 : UInt8) (hq : q < 26) (hcq : c.toNat = 97 + q)
    (d0 : 48 ≤ x0.toNat ∧ x0.toNat ≤ 57) (d1 : 48 ≤ x1.toNat ∧ x1.toNat ≤ 57) (d2 : 48 ≤ x2.toNat ∧ x2.toNat ≤ 57) (d3 : 48 ≤ x3.toNat ∧ x3.toNat ≤ 57) (d4 : 48 ≤ x4.toNat ∧ x4.toNat ≤ 57) (d5 : 48 ≤ x5.toNat ∧ x5.toNat ≤ 57)
    (r0 : Ret 18 #[.string (sOf [x0, x1])] (.tuple #[.int .i64 ((m0 : Nat) : Int), .nilIface])) (r1 : Ret 18 #[.string (sOf [x2, x3])] (.tuple #[.int .i64 ((m1 : Nat) : Int), .nilIface])) (r2 : Ret 18 #[.string (sOf [x4, x5])] (.tuple #[.int .i64 ((m2 : Nat) : Int), .nilIface]))
    (hm : m0 < 100 ∧ m1 < 60 ∧ m2 < 60) (hn : n = m0 * 3600 + m1 * 60 + m2)
    (t1 : Int.tmod T 360000 = (n : Int)) (t2 : IntKind.u32.wrap (n : Int) = (n : Int)) (t3 : IntKind.i64.wrap (n : Int) = (n : Int)) (m6 : Int.tmod M 6 = 0) (g1 : Int.tmod G 26 = (q : Int))
    (hT : Ret 7 #[.int .i64 (n : Int)] (.string (sOf [x0, x1, 58, x2, x3, 58, x4, x5]))) (hw : SynV w) :
    Calls Tryd.prog 5 #[.int .u32 T, .int .u8 M, .int .u8 G] w fun e w' => e = .returned (.bool true) ∧ Below w.heap.size w w' := by
  have hbad : Fails 18 #[.string (sOf [c, x1])] (.int .i64 0) := fails_atoi _ (by simp) (atoi_letter _ _ (.inl (by omega)))
  have hgs := ret_split [x0, x1] [x2, x3] [x4, x5] (by simp) (no_sep (low_ne d0.1 (by decide) (.inl d0.2)) (low_ne d1.1 (by decide) (.inl d1.2))) (no_sep (low_ne d2.1 (by decide) (.inl d2.2)) (low_ne d3.1 (by decide) (.inl d3.2))) (no_sep (low_ne d4.1 (by decide) (.inl d4.2)) (low_ne d5.1 (by decide) (.inl d5.2)))
  have hc0 : 48 ≤ c.toNat := by omega
  have hc1 : c.toNat ≤ 57 ∨ 97 ≤ c.toNat := .inr (by omega)
  have hsp := ret_split [c, x1] [x2, x3] [x4, x5] (by simp) (no_sep (low_ne hc0 (by decide) hc1) (low_ne d1.1 (by decide) (.inl d1.2))) (no_sep (low_ne d2.1 (by decide) (.inl d2.2)) (low_ne d3.1 (by decide) (.inl d3.2))) (no_sep (low_ne d4.1 (by decide) (.inl d4.2)) (low_ne d5.1 (by decide) (.inl d5.2)))
  have hcut := ret_cut [c, x1, 58, x2, x3, 58, x4, x5] [53] (by simp) (by
    intro x hx
    simp only [List.mem_cons, List.not_mem_nil, or_false] at hx
    rcases hx with rfl | rfl | rfl | rfl | rfl | rfl | rfl | rfl
    · exact low_ne hc0 (by decide) hc1
    · exact low_ne d1.1 (by decide) (.inl d1.2)
    · decide
    · exact low_ne d2.1 (by decide) (.inl d2.2)
    · exact low_ne d3.1 (by decide) (.inl d3.2)
    · decide
    · exact low_ne d4.1 (by decide) (.inl d4.2)
    · exact low_ne d5.1 (by decide) (.inl d5.2))
  refine wrong0 w T M G (n : Int) (n : Int) q hq c hcq (sOf [x0, x1, 58, x2, x3, 58, x4, x5]) (sOf []) (sOf [x1, 58, x2, x3, 58, x4, x5]) (sOf [c]) (sOf [c, x1, 58, x2, x3, 58, x4, x5]) (sOf [c, x1, 58, x2, x3, 58, x4, x5, 46, 53]) t1 t2 t3 m6 g1
    (fun w => (sl_to _ 0 _ rfl (by rw [sOf_size]; simp) w).trans (by rw [sOf_ex]; rfl)) (fun w => (sl_from _ 1 _ rfl (by rw [sOf_size]; simp) w).trans (by rw [sOf_ex, sOf_size]; rfl))
    (sOf_app _ _) (sOf_app _ _) (sOf_app _ _) rfl rfl rfl rfl rfl hT
    (fun w hw => tmParse32E w _ (fun w hw => parse32E1 w _ (sOf []) (sOf []) _ _ _ 0 hsp  hbad hw) hw) (fun w hw => tmParse64E w _ (fun w hw => parse64E1 w _ _ _ _ _ _ 0 hcut hsp  hbad hw) hw) (fun w => tmParse32V w _ _ (fun w => parse32V w _ (sOf []) (sOf []) _ _ _ (m0 : Int) (m1 : Int) (m2 : Int) (n : Int) hgs r0 r1 r2 ?_ ?_ ?_ ?_ ?_)) hw
  · apply wrapI <;> omega
  · apply wrapI <;> omega
  · apply wrapI <;> omega
  · rw [show (m0 : Int) * 3600 + (m1 : Int) * 60 + (m2 : Int) = (n : Int) by omega]; exact t3
  · rw [IntKind.wrap_i32]; omega
set_option maxRecDepth 10000 in
theorem wrongAt1 (w : World) (T M G : Int) (n m0 m1 m2 q : Nat) (c x0 x1 x2 x3 x4 x5 : UInt8) (hq : q < 26) (hcq : c.toNat = 97 + q)
    (d0 : 48 ≤ x0.toNat ∧ x0.toNat ≤ 57) (d1 : 48 ≤ x1.toNat ∧ x1.toNat ≤ 57) (d2 : 48 ≤ x2.toNat ∧ x2.toNat ≤ 57) (d3 : 48 ≤ x3.toNat ∧ x3.toNat ≤ 57) (d4 : 48 ≤ x4.toNat ∧ x4.toNat ≤ 57) (d5 : 48 ≤ x5.toNat ∧ x5.toNat ≤ 57)
    (r0 : Ret 18 #[.string (sOf [x0, x1])] (.tuple #[.int .i64 ((m0 : Nat) : Int), .nilIface])) (r1 : Ret 18 #[.string (sOf [x2, x3])] (.tuple #[.int .i64 ((m1 : Nat) : Int), .nilIface])) (r2 : Ret 18 #[.string (sOf [x4, x5])] (.tuple #[.int .i64 ((m2 : Nat) : Int), .nilIface]))
    (hm : m0 < 100 ∧ m1 < 60 ∧ m2 < 60) (hn : n = m0 * 3600 + m1 * 60 + m2)
    (t1 : Int.tmod T 360000 = (n : Int)) (t2 : IntKind.u32.wrap (n : Int) = (n : Int)) (t3 : IntKind.i64.wrap (n : Int) = (n : Int)) (m6 : Int.tmod M 6 = 1) (g1 : Int.tmod G 26 = (q : Int))
    (hT : Ret 7 #[.int .i64 (n : Int)] (.string (sOf [x0, x1, 58, x2, x3, 58, x4, x5]))) (hw : SynV w) :
    Calls Tryd.prog 5 #[.int .u32 T, .int .u8 M, .int .u8 G] w fun e w' => e = .returned (.bool true) ∧ Below w.heap.size w w' := by
  have hbad : Fails 18 #[.string (sOf [x0, c])] (.int .i64 0) := fails_atoi _ (by simp) (atoi_letter _ _ (.inr ⟨d0.1, d0.2, by omega⟩))
  have hgs := ret_split [x0, x1] [x2, x3] [x4, x5] (by simp) (no_sep (low_ne d0.1 (by decide) (.inl d0.2)) (low_ne d1.1 (by decide) (.inl d1.2))) (no_sep (low_ne d2.1 (by decide) (.inl d2.2)) (low_ne d3.1 (by decide) (.inl d3.2))) (no_sep (low_ne d4.1 (by decide) (.inl d4.2)) (low_ne d5.1 (by decide) (.inl d5.2)))
  have hc0 : 48 ≤ c.toNat := by omega
  have hc1 : c.toNat ≤ 57 ∨ 97 ≤ c.toNat := .inr (by omega)
  have hsp := ret_split [x0, c] [x2, x3] [x4, x5] (by simp) (no_sep (low_ne d0.1 (by decide) (.inl d0.2)) (low_ne hc0 (by decide) hc1)) (no_sep (low_ne d2.1 (by decide) (.inl d2.2)) (low_ne d3.1 (by decide) (.inl d3.2))) (no_sep (low_ne d4.1 (by decide) (.inl d4.2)) (low_ne d5.1 (by decide) (.inl d5.2)))
  have hcut := ret_cut [x0, c, 58, x2, x3, 58, x4, x5] [53] (by simp) (by
    intro x hx
    simp only [List.mem_cons, List.not_mem_nil, or_false] at hx
    rcases hx with rfl | rfl | rfl | rfl | rfl | rfl | rfl | rfl
    · exact low_ne d0.1 (by decide) (.inl d0.2)
    · exact low_ne hc0 (by decide) hc1
    · decide
    · exact low_ne d2.1 (by decide) (.inl d2.2)
    · exact low_ne d3.1 (by decide) (.inl d3.2)
    · decide
    · exact low_ne d4.1 (by decide) (.inl d4.2)
    · exact low_ne d5.1 (by decide) (.inl d5.2))
  refine wrong1 w T M G (n : Int) (n : Int) q hq c hcq (sOf [x0, x1, 58, x2, x3, 58, x4, x5]) (sOf [x0]) (sOf [58, x2, x3, 58, x4, x5]) (sOf [x0, c]) (sOf [x0, c, 58, x2, x3, 58, x4, x5]) (sOf [x0, c, 58, x2, x3, 58, x4, x5, 46, 53]) t1 t2 t3 m6 g1
    (fun w => (sl_to _ 1 _ rfl (by rw [sOf_size]; simp) w).trans (by rw [sOf_ex]; rfl)) (fun w => (sl_from _ 2 _ rfl (by rw [sOf_size]; simp) w).trans (by rw [sOf_ex, sOf_size]; rfl))
    (sOf_app _ _) (sOf_app _ _) (sOf_app _ _) rfl rfl rfl rfl rfl hT
    (fun w hw => tmParse32E w _ (fun w hw => parse32E1 w _ (sOf []) (sOf []) _ _ _ 0 hsp  hbad hw) hw) (fun w hw => tmParse64E w _ (fun w hw => parse64E1 w _ _ _ _ _ _ 0 hcut hsp  hbad hw) hw) (fun w => tmParse32V w _ _ (fun w => parse32V w _ (sOf []) (sOf []) _ _ _ (m0 : Int) (m1 : Int) (m2 : Int) (n : Int) hgs r0 r1 r2 ?_ ?_ ?_ ?_ ?_)) hw
  · apply wrapI <;> omega
  · apply wrapI <;> omega
  · apply wrapI <;> omega
  · rw [show (m0 : Int) * 3600 + (m1 : Int) * 60 + (m2 : Int) = (n : Int) by omega]; exact t3
  · rw [IntKind.wrap_i32]; omega
set_option maxRecDepth 10000 in
theorem wrongAt2 (w : World) (T M G : Int) (n m0 m1 m2 q : Nat) (c x0 x1 x2 x3 x4 x5 : UInt8) (hq : q < 26) (hcq : c.toNat = 97 + q)
    (d0 : 48 ≤ x0.toNat ∧ x0.toNat ≤ 57) (d1 : 48 ≤ x1.toNat ∧ x1.toNat ≤ 57) (d2 : 48 ≤ x2.toNat ∧ x2.toNat ≤ 57) (d3 : 48 ≤ x3.toNat ∧ x3.toNat ≤ 57) (d4 : 48 ≤ x4.toNat ∧ x4.toNat ≤ 57) (d5 : 48 ≤ x5.toNat ∧ x5.toNat ≤ 57)
    (r0 : Ret 18 #[.string (sOf [x0, x1])] (.tuple #[.int .i64 ((m0 : Nat) : Int), .nilIface])) (r1 : Ret 18 #[.string (sOf [x2, x3])] (.tuple #[.int .i64 ((m1 : Nat) : Int), .nilIface])) (r2 : Ret 18 #[.string (sOf [x4, x5])] (.tuple #[.int .i64 ((m2 : Nat) : Int), .nilIface]))
    (hm : m0 < 100 ∧ m1 < 60 ∧ m2 < 60) (hn : n = m0 * 3600 + m1 * 60 + m2)
    (t1 : Int.tmod T 360000 = (n : Int)) (t2 : IntKind.u32.wrap (n : Int) = (n : Int)) (t3 : IntKind.i64.wrap (n : Int) = (n : Int)) (m6 : Int.tmod M 6 = 2) (g1 : Int.tmod G 26 = (q : Int))
    (hT : Ret 7 #[.int .i64 (n : Int)] (.string (sOf [x0, x1, 58, x2, x3, 58, x4, x5]))) (hw : SynV w) :
    Calls Tryd.prog 5 #[.int .u32 T, .int .u8 M, .int .u8 G] w fun e w' => e = .returned (.bool true) ∧ Below w.heap.size w w' := by
  have hbad : Fails 18 #[.string (sOf [c, x3])] (.int .i64 0) := fails_atoi _ (by simp) (atoi_letter _ _ (.inl (by omega)))
  have hgs := ret_split [x0, x1] [x2, x3] [x4, x5] (by simp) (no_sep (low_ne d0.1 (by decide) (.inl d0.2)) (low_ne d1.1 (by decide) (.inl d1.2))) (no_sep (low_ne d2.1 (by decide) (.inl d2.2)) (low_ne d3.1 (by decide) (.inl d3.2))) (no_sep (low_ne d4.1 (by decide) (.inl d4.2)) (low_ne d5.1 (by decide) (.inl d5.2)))
  have hc0 : 48 ≤ c.toNat := by omega
  have hc1 : c.toNat ≤ 57 ∨ 97 ≤ c.toNat := .inr (by omega)
  have hsp := ret_split [x0, x1] [c, x3] [x4, x5] (by simp) (no_sep (low_ne d0.1 (by decide) (.inl d0.2)) (low_ne d1.1 (by decide) (.inl d1.2))) (no_sep (low_ne hc0 (by decide) hc1) (low_ne d3.1 (by decide) (.inl d3.2))) (no_sep (low_ne d4.1 (by decide) (.inl d4.2)) (low_ne d5.1 (by decide) (.inl d5.2)))
  have hcut := ret_cut [x0, x1, 58, c, x3, 58, x4, x5] [53] (by simp) (by
    intro x hx
    simp only [List.mem_cons, List.not_mem_nil, or_false] at hx
    rcases hx with rfl | rfl | rfl | rfl | rfl | rfl | rfl | rfl
    · exact low_ne d0.1 (by decide) (.inl d0.2)
    · exact low_ne d1.1 (by decide) (.inl d1.2)
    · decide
    · exact low_ne hc0 (by decide) hc1
    · exact low_ne d3.1 (by decide) (.inl d3.2)
    · decide
    · exact low_ne d4.1 (by decide) (.inl d4.2)
    · exact low_ne d5.1 (by decide) (.inl d5.2))
  refine wrong2 w T M G (n : Int) (n : Int) q hq c hcq (sOf [x0, x1, 58, x2, x3, 58, x4, x5]) (sOf [x0, x1, 58]) (sOf [x3, 58, x4, x5]) (sOf [x0, x1, 58, c]) (sOf [x0, x1, 58, c, x3, 58, x4, x5]) (sOf [x0, x1, 58, c, x3, 58, x4, x5, 46, 53]) t1 t2 t3 m6 g1
    (fun w => (sl_to _ 3 _ rfl (by rw [sOf_size]; simp) w).trans (by rw [sOf_ex]; rfl)) (fun w => (sl_from _ 4 _ rfl (by rw [sOf_size]; simp) w).trans (by rw [sOf_ex, sOf_size]; rfl))
    (sOf_app _ _) (sOf_app _ _) (sOf_app _ _) rfl rfl rfl rfl rfl hT
    (fun w hw => tmParse32E w _ (fun w hw => parse32E2 w _ (sOf []) (sOf []) _ _ _ ((m0 : Nat) : Int) hsp r0 hbad hw) hw) (fun w hw => tmParse64E w _ (fun w hw => parse64E2 w _ _ _ _ _ _ ((m0 : Nat) : Int) hcut hsp r0 hbad hw) hw) (fun w => tmParse32V w _ _ (fun w => parse32V w _ (sOf []) (sOf []) _ _ _ (m0 : Int) (m1 : Int) (m2 : Int) (n : Int) hgs r0 r1 r2 ?_ ?_ ?_ ?_ ?_)) hw
  · apply wrapI <;> omega
  · apply wrapI <;> omega
  · apply wrapI <;> omega
  · rw [show (m0 : Int) * 3600 + (m1 : Int) * 60 + (m2 : Int) = (n : Int) by omega]; exact t3
  · rw [IntKind.wrap_i32]; omega
set_option maxRecDepth 10000 in
theorem wrongAt3 (w : World) (T M G : Int) (n m0 m1 m2 q : Nat) (c x0 x1 x2 x3 x4 x5 : UInt8) (hq : q < 26) (hcq : c.toNat = 97 + q)
    (d0 : 48 ≤ x0.toNat ∧ x0.toNat ≤ 57) (d1 : 48 ≤ x1.toNat ∧ x1.toNat ≤ 57) (d2 : 48 ≤ x2.toNat ∧ x2.toNat ≤ 57) (d3 : 48 ≤ x3.toNat ∧ x3.toNat ≤ 57) (d4 : 48 ≤ x4.toNat ∧ x4.toNat ≤ 57) (d5 : 48 ≤ x5.toNat ∧ x5.toNat ≤ 57)
    (r0 : Ret 18 #[.string (sOf [x0, x1])] (.tuple #[.int .i64 ((m0 : Nat) : Int), .nilIface])) (r1 : Ret 18 #[.string (sOf [x2, x3])] (.tuple #[.int .i64 ((m1 : Nat) : Int), .nilIface])) (r2 : Ret 18 #[.string (sOf [x4, x5])] (.tuple #[.int .i64 ((m2 : Nat) : Int), .nilIface]))
    (hm : m0 < 100 ∧ m1 < 60 ∧ m2 < 60) (hn : n = m0 * 3600 + m1 * 60 + m2)
    (t1 : Int.tmod T 360000 = (n : Int)) (t2 : IntKind.u32.wrap (n : Int) = (n : Int)) (t3 : IntKind.i64.wrap (n : Int) = (n : Int)) (m6 : Int.tmod M 6 = 3) (g1 : Int.tmod G 26 = (q : Int))
    (hT : Ret 7 #[.int .i64 (n : Int)] (.string (sOf [x0, x1, 58, x2, x3, 58, x4, x5]))) (hw : SynV w) :
    Calls Tryd.prog 5 #[.int .u32 T, .int .u8 M, .int .u8 G] w fun e w' => e = .returned (.bool true) ∧ Below w.heap.size w w' := by
  have hbad : Fails 18 #[.string (sOf [x2, c])] (.int .i64 0) := fails_atoi _ (by simp) (atoi_letter _ _ (.inr ⟨d2.1, d2.2, by omega⟩))
  have hgs := ret_split [x0, x1] [x2, x3] [x4, x5] (by simp) (no_sep (low_ne d0.1 (by decide) (.inl d0.2)) (low_ne d1.1 (by decide) (.inl d1.2))) (no_sep (low_ne d2.1 (by decide) (.inl d2.2)) (low_ne d3.1 (by decide) (.inl d3.2))) (no_sep (low_ne d4.1 (by decide) (.inl d4.2)) (low_ne d5.1 (by decide) (.inl d5.2)))
  have hc0 : 48 ≤ c.toNat := by omega
  have hc1 : c.toNat ≤ 57 ∨ 97 ≤ c.toNat := .inr (by omega)
  have hsp := ret_split [x0, x1] [x2, c] [x4, x5] (by simp) (no_sep (low_ne d0.1 (by decide) (.inl d0.2)) (low_ne d1.1 (by decide) (.inl d1.2))) (no_sep (low_ne d2.1 (by decide) (.inl d2.2)) (low_ne hc0 (by decide) hc1)) (no_sep (low_ne d4.1 (by decide) (.inl d4.2)) (low_ne d5.1 (by decide) (.inl d5.2)))
  have hcut := ret_cut [x0, x1, 58, x2, c, 58, x4, x5] [53] (by simp) (by
    intro x hx
    simp only [List.mem_cons, List.not_mem_nil, or_false] at hx
    rcases hx with rfl | rfl | rfl | rfl | rfl | rfl | rfl | rfl
    · exact low_ne d0.1 (by decide) (.inl d0.2)
    · exact low_ne d1.1 (by decide) (.inl d1.2)
    · decide
    · exact low_ne d2.1 (by decide) (.inl d2.2)
    · exact low_ne hc0 (by decide) hc1
    · decide
    · exact low_ne d4.1 (by decide) (.inl d4.2)
    · exact low_ne d5.1 (by decide) (.inl d5.2))
  refine wrong3 w T M G (n : Int) (n : Int) q hq c hcq (sOf [x0, x1, 58, x2, x3, 58, x4, x5]) (sOf [x0, x1, 58, x2]) (sOf [58, x4, x5]) (sOf [x0, x1, 58, x2, c]) (sOf [x0, x1, 58, x2, c, 58, x4, x5]) (sOf [x0, x1, 58, x2, c, 58, x4, x5, 46, 53]) t1 t2 t3 m6 g1
    (fun w => (sl_to _ 4 _ rfl (by rw [sOf_size]; simp) w).trans (by rw [sOf_ex]; rfl)) (fun w => (sl_from _ 5 _ rfl (by rw [sOf_size]; simp) w).trans (by rw [sOf_ex, sOf_size]; rfl))
    (sOf_app _ _) (sOf_app _ _) (sOf_app _ _) rfl rfl rfl rfl rfl hT
    (fun w hw => tmParse32E w _ (fun w hw => parse32E2 w _ (sOf []) (sOf []) _ _ _ ((m0 : Nat) : Int) hsp r0 hbad hw) hw) (fun w hw => tmParse64E w _ (fun w hw => parse64E2 w _ _ _ _ _ _ ((m0 : Nat) : Int) hcut hsp r0 hbad hw) hw) (fun w => tmParse32V w _ _ (fun w => parse32V w _ (sOf []) (sOf []) _ _ _ (m0 : Int) (m1 : Int) (m2 : Int) (n : Int) hgs r0 r1 r2 ?_ ?_ ?_ ?_ ?_)) hw
  · apply wrapI <;> omega
  · apply wrapI <;> omega
  · apply wrapI <;> omega
  · rw [show (m0 : Int) * 3600 + (m1 : Int) * 60 + (m2 : Int) = (n : Int) by omega]; exact t3
  · rw [IntKind.wrap_i32]; omega
set_option maxRecDepth 10000 in
theorem wrongAt4 (w : World) (T M G : Int) (n m0 m1 m2 q : Nat) (c x0 x1 x2 x3 x4 x5 : UInt8) (hq : q < 26) (hcq : c.toNat = 97 + q)
    (d0 : 48 ≤ x0.toNat ∧ x0.toNat ≤ 57) (d1 : 48 ≤ x1.toNat ∧ x1.toNat ≤ 57) (d2 : 48 ≤ x2.toNat ∧ x2.toNat ≤ 57) (d3 : 48 ≤ x3.toNat ∧ x3.toNat ≤ 57) (d4 : 48 ≤ x4.toNat ∧ x4.toNat ≤ 57) (d5 : 48 ≤ x5.toNat ∧ x5.toNat ≤ 57)
    (r0 : Ret 18 #[.string (sOf [x0, x1])] (.tuple #[.int .i64 ((m0 : Nat) : Int), .nilIface])) (r1 : Ret 18 #[.string (sOf [x2, x3])] (.tuple #[.int .i64 ((m1 : Nat) : Int), .nilIface])) (r2 : Ret 18 #[.string (sOf [x4, x5])] (.tuple #[.int .i64 ((m2 : Nat) : Int), .nilIface]))
    (hm : m0 < 100 ∧ m1 < 60 ∧ m2 < 60) (hn : n = m0 * 3600 + m1 * 60 + m2)
    (t1 : Int.tmod T 360000 = (n : Int)) (t2 : IntKind.u32.wrap (n : Int) = (n : Int)) (t3 : IntKind.i64.wrap (n : Int) = (n : Int)) (m6 : Int.tmod M 6 = 4) (g1 : Int.tmod G 26 = (q : Int))
    (hT : Ret 7 #[.int .i64 (n : Int)] (.string (sOf [x0, x1, 58, x2, x3, 58, x4, x5]))) (hw : SynV w) :
    Calls Tryd.prog 5 #[.int .u32 T, .int .u8 M, .int .u8 G] w fun e w' => e = .returned (.bool true) ∧ Below w.heap.size w w' := by
  have hbad : Fails 18 #[.string (sOf [c, x5])] (.int .i64 0) := fails_atoi _ (by simp) (atoi_letter _ _ (.inl (by omega)))
  have hgs := ret_split [x0, x1] [x2, x3] [x4, x5] (by simp) (no_sep (low_ne d0.1 (by decide) (.inl d0.2)) (low_ne d1.1 (by decide) (.inl d1.2))) (no_sep (low_ne d2.1 (by decide) (.inl d2.2)) (low_ne d3.1 (by decide) (.inl d3.2))) (no_sep (low_ne d4.1 (by decide) (.inl d4.2)) (low_ne d5.1 (by decide) (.inl d5.2)))
  have hc0 : 48 ≤ c.toNat := by omega
  have hc1 : c.toNat ≤ 57 ∨ 97 ≤ c.toNat := .inr (by omega)
  have hsp := ret_split [x0, x1] [x2, x3] [c, x5] (by simp) (no_sep (low_ne d0.1 (by decide) (.inl d0.2)) (low_ne d1.1 (by decide) (.inl d1.2))) (no_sep (low_ne d2.1 (by decide) (.inl d2.2)) (low_ne d3.1 (by decide) (.inl d3.2))) (no_sep (low_ne hc0 (by decide) hc1) (low_ne d5.1 (by decide) (.inl d5.2)))
  have hcut := ret_cut [x0, x1, 58, x2, x3, 58, c, x5] [53] (by simp) (by
    intro x hx
    simp only [List.mem_cons, List.not_mem_nil, or_false] at hx
    rcases hx with rfl | rfl | rfl | rfl | rfl | rfl | rfl | rfl
    · exact low_ne d0.1 (by decide) (.inl d0.2)
    · exact low_ne d1.1 (by decide) (.inl d1.2)
    · decide
    · exact low_ne d2.1 (by decide) (.inl d2.2)
    · exact low_ne d3.1 (by decide) (.inl d3.2)
    · decide
    · exact low_ne hc0 (by decide) hc1
    · exact low_ne d5.1 (by decide) (.inl d5.2))
  refine wrong4 w T M G (n : Int) (n : Int) q hq c hcq (sOf [x0, x1, 58, x2, x3, 58, x4, x5]) (sOf [x0, x1, 58, x2, x3, 58]) (sOf [x5]) (sOf [x0, x1, 58, x2, x3, 58, c]) (sOf [x0, x1, 58, x2, x3, 58, c, x5]) (sOf [x0, x1, 58, x2, x3, 58, c, x5, 46, 53]) t1 t2 t3 m6 g1
    (fun w => (sl_to _ 6 _ rfl (by rw [sOf_size]; simp) w).trans (by rw [sOf_ex]; rfl)) (fun w => (sl_from _ 7 _ rfl (by rw [sOf_size]; simp) w).trans (by rw [sOf_ex, sOf_size]; rfl))
    (sOf_app _ _) (sOf_app _ _) (sOf_app _ _) rfl rfl rfl rfl rfl hT
    (fun w hw => tmParse32E w _ (fun w hw => parse32E3 w _ (sOf []) (sOf []) _ _ _ ((m0 : Nat) : Int) ((m1 : Nat) : Int) hsp r0 r1 hbad hw) hw) (fun w hw => tmParse64E w _ (fun w hw => parse64E3 w _ _ _ _ _ _ ((m0 : Nat) : Int) ((m1 : Nat) : Int) hcut hsp r0 r1 hbad hw) hw) (fun w => tmParse32V w _ _ (fun w => parse32V w _ (sOf []) (sOf []) _ _ _ (m0 : Int) (m1 : Int) (m2 : Int) (n : Int) hgs r0 r1 r2 ?_ ?_ ?_ ?_ ?_)) hw
  · apply wrapI <;> omega
  · apply wrapI <;> omega
  · apply wrapI <;> omega
  · rw [show (m0 : Int) * 3600 + (m1 : Int) * 60 + (m2 : Int) = (n : Int) by omega]; exact t3
  · rw [IntKind.wrap_i32]; omega
set_option maxRecDepth 10000 in
theorem wrongAt5 (w : World) (T M G : Int) (n m0 m1 m2 q : Nat) (c x0 x1 x2 x3 x4 x5 : UInt8) (hq : q < 26) (hcq : c.toNat = 97 + q)
    (d0 : 48 ≤ x0.toNat ∧ x0.toNat ≤ 57) (d1 : 48 ≤ x1.toNat ∧ x1.toNat ≤ 57) (d2 : 48 ≤ x2.toNat ∧ x2.toNat ≤ 57) (d3 : 48 ≤ x3.toNat ∧ x3.toNat ≤ 57) (d4 : 48 ≤ x4.toNat ∧ x4.toNat ≤ 57) (d5 : 48 ≤ x5.toNat ∧ x5.toNat ≤ 57)
    (r0 : Ret 18 #[.string (sOf [x0, x1])] (.tuple #[.int .i64 ((m0 : Nat) : Int), .nilIface])) (r1 : Ret 18 #[.string (sOf [x2, x3])] (.tuple #[.int .i64 ((m1 : Nat) : Int), .nilIface])) (r2 : Ret 18 #[.string (sOf [x4, x5])] (.tuple #[.int .i64 ((m2 : Nat) : Int), .nilIface]))
    (hm : m0 < 100 ∧ m1 < 60 ∧ m2 < 60) (hn : n = m0 * 3600 + m1 * 60 + m2)
    (t1 : Int.tmod T 360000 = (n : Int)) (t2 : IntKind.u32.wrap (n : Int) = (n : Int)) (t3 : IntKind.i64.wrap (n : Int) = (n : Int)) (m6 : Int.tmod M 6 = 5) (g1 : Int.tmod G 26 = (q : Int))
    (hT : Ret 7 #[.int .i64 (n : Int)] (.string (sOf [x0, x1, 58, x2, x3, 58, x4, x5]))) (hw : SynV w) :
    Calls Tryd.prog 5 #[.int .u32 T, .int .u8 M, .int .u8 G] w fun e w' => e = .returned (.bool true) ∧ Below w.heap.size w w' := by
  have hbad : Fails 18 #[.string (sOf [x4, c])] (.int .i64 0) := fails_atoi _ (by simp) (atoi_letter _ _ (.inr ⟨d4.1, d4.2, by omega⟩))
  have hgs := ret_split [x0, x1] [x2, x3] [x4, x5] (by simp) (no_sep (low_ne d0.1 (by decide) (.inl d0.2)) (low_ne d1.1 (by decide) (.inl d1.2))) (no_sep (low_ne d2.1 (by decide) (.inl d2.2)) (low_ne d3.1 (by decide) (.inl d3.2))) (no_sep (low_ne d4.1 (by decide) (.inl d4.2)) (low_ne d5.1 (by decide) (.inl d5.2)))
  have hc0 : 48 ≤ c.toNat := by omega
  have hc1 : c.toNat ≤ 57 ∨ 97 ≤ c.toNat := .inr (by omega)
  have hsp := ret_split [x0, x1] [x2, x3] [x4, c] (by simp) (no_sep (low_ne d0.1 (by decide) (.inl d0.2)) (low_ne d1.1 (by decide) (.inl d1.2))) (no_sep (low_ne d2.1 (by decide) (.inl d2.2)) (low_ne d3.1 (by decide) (.inl d3.2))) (no_sep (low_ne d4.1 (by decide) (.inl d4.2)) (low_ne hc0 (by decide) hc1))
  have hcut := ret_cut [x0, x1, 58, x2, x3, 58, x4, c] [53] (by simp) (by
    intro x hx
    simp only [List.mem_cons, List.not_mem_nil, or_false] at hx
    rcases hx with rfl | rfl | rfl | rfl | rfl | rfl | rfl | rfl
    · exact low_ne d0.1 (by decide) (.inl d0.2)
    · exact low_ne d1.1 (by decide) (.inl d1.2)
    · decide
    · exact low_ne d2.1 (by decide) (.inl d2.2)
    · exact low_ne d3.1 (by decide) (.inl d3.2)
    · decide
    · exact low_ne d4.1 (by decide) (.inl d4.2)
    · exact low_ne hc0 (by decide) hc1)
  refine wrong5 w T M G (n : Int) (n : Int) q hq c hcq (sOf [x0, x1, 58, x2, x3, 58, x4, x5]) (sOf [x0, x1, 58, x2, x3, 58, x4]) (sOf []) (sOf [x0, x1, 58, x2, x3, 58, x4, c]) (sOf [x0, x1, 58, x2, x3, 58, x4, c]) (sOf [x0, x1, 58, x2, x3, 58, x4, c, 46, 53]) t1 t2 t3 m6 g1
    (fun w => (sl_to _ 7 _ rfl (by rw [sOf_size]; simp) w).trans (by rw [sOf_ex]; rfl)) (fun w => (sl_from _ 8 _ rfl (by rw [sOf_size]; simp) w).trans (by rw [sOf_ex, sOf_size]; rfl))
    (sOf_app _ _) (sOf_app _ _) (sOf_app _ _) rfl rfl rfl rfl rfl hT
    (fun w hw => tmParse32E w _ (fun w hw => parse32E3 w _ (sOf []) (sOf []) _ _ _ ((m0 : Nat) : Int) ((m1 : Nat) : Int) hsp r0 r1 hbad hw) hw) (fun w hw => tmParse64E w _ (fun w hw => parse64E3 w _ _ _ _ _ _ ((m0 : Nat) : Int) ((m1 : Nat) : Int) hcut hsp r0 r1 hbad hw) hw) (fun w => tmParse32V w _ _ (fun w => parse32V w _ (sOf []) (sOf []) _ _ _ (m0 : Int) (m1 : Int) (m2 : Int) (n : Int) hgs r0 r1 r2 ?_ ?_ ?_ ?_ ?_)) hw
  · apply wrapI <;> omega
  · apply wrapI <;> omega
  · apply wrapI <;> omega
  · rw [show (m0 : Int) * 3600 + (m1 : Int) * 60 + (m2 : Int) = (n : Int) by omega]; exact t3
  · rw [IntKind.wrap_i32]; omega
theorem tmWrongWalk (w : World) (a0 a1 a2 : Int) (h0 : 0 ≤ a0) (h0u : a0 ≤ 4294967295) (h1 : 0 ≤ a1) (h1u : a1 ≤ 255) (h2 : 0 ≤ a2) (h2u : a2 ≤ 255) (hw : SynV w) :
    Calls Tryd.prog 5 #[.int .u32 a0, .int .u8 a1, .int .u8 a2] w fun e w' => e = .returned (.bool true) ∧ Below w.heap.size w w' := by
  obtain ⟨T, rfl⟩ := Int.eq_ofNat_of_zero_le h0
  obtain ⟨M, rfl⟩ := Int.eq_ofNat_of_zero_le h1
  obtain ⟨G, rfl⟩ := Int.eq_ofNat_of_zero_le h2
  obtain ⟨q, hq⟩ : ∃ q, q = G % 26 := ⟨_, rfl⟩
  obtain ⟨n, hn⟩ : ∃ n, n = T % 360000 := ⟨_, rfl⟩
  have hn0 : n < 360000 := by omega
  have hT := fun w => tmText w n hn0
  have two : ∀ m, m < 100 → Ret 18 #[.string (sOf (digs 2 m))] (.tuple #[.int .i64 (m : Int), .nilIface]) := fun m hm => ret_atoi _ m (by rw [digs_length]; omega) (by rw [digs_length]; omega) (digs_digit 2 m) (dec2 hm)
  have r0 := two (n / 3600) (by omega)
  have r1 := two (n / 60 % 60) (by omega)
  have r2 := two (n % 60) (by omega)
  have dgs : ∀ m, m < 10 → 48 ≤ (dg m).toNat ∧ (dg m).toNat ≤ 57 := fun m hm => by rw [dg_toNat hm]; omega
  rw [digs2 _ (by omega)] at r0 r1 r2
  have htt : tt n = [dg (n / 3600 / 10), dg (n / 3600 % 10), 58, dg (n / 60 % 60 / 10), dg (n / 60 % 60 % 10), 58, dg (n % 60 / 10), dg (n % 60 % 10)] := by
    rw [tt, digs2 _ (by omega), digs2 _ (by omega), digs2 _ (by omega)]
    rfl
  rw [htt] at hT
  have hcq : (UInt8.ofNat (97 + q)).toNat = 97 + q := by rw [UInt8.toNat_ofNat']; omega
  have t1 : Int.tmod (T : Int) 360000 = (n : Int) := by rw [Int.tmod_eq_emod_of_nonneg (by omega)]; omega
  have t2 : IntKind.u32.wrap (n : Int) = (n : Int) := by rw [IntKind.wrap_u32]; omega
  have t3 : IntKind.i64.wrap (n : Int) = (n : Int) := by apply wrapI <;> omega
  have g1 : Int.tmod (G : Int) 26 = (q : Int) := by rw [Int.tmod_eq_emod_of_nonneg (by omega)]; omega
  have m6 : M % 6 = 0 ∨ M % 6 = 1 ∨ M % 6 = 2 ∨ M % 6 = 3 ∨ M % 6 = 4 ∨ M % 6 = 5 := by omega
  have hM : Int.tmod (M : Int) 6 = ((M % 6 : Nat) : Int) := by rw [Int.tmod_eq_emod_of_nonneg (by omega)]; omega
  rcases m6 with e | e | e | e | e | e <;> rw [e] at hM
  · exact wrongAt0 w _ _ _ n (n / 3600) (n / 60 % 60) (n % 60) q _ _ _ _ _ _ _ (by omega) hcq (dgs _ (by omega)) (dgs _ (by omega)) (dgs _ (by omega)) (dgs _ (by omega)) (dgs _ (by omega)) (dgs _ (by omega)) r0 r1 r2 (by omega) (by omega) t1 t2 t3 hM g1 hT hw
  · exact wrongAt1 w _ _ _ n (n / 3600) (n / 60 % 60) (n % 60) q _ _ _ _ _ _ _ (by omega) hcq (dgs _ (by omega)) (dgs _ (by omega)) (dgs _ (by omega)) (dgs _ (by omega)) (dgs _ (by omega)) (dgs _ (by omega)) r0 r1 r2 (by omega) (by omega) t1 t2 t3 hM g1 hT hw
  · exact wrongAt2 w _ _ _ n (n / 3600) (n / 60 % 60) (n % 60) q _ _ _ _ _ _ _ (by omega) hcq (dgs _ (by omega)) (dgs _ (by omega)) (dgs _ (by omega)) (dgs _ (by omega)) (dgs _ (by omega)) (dgs _ (by omega)) r0 r1 r2 (by omega) (by omega) t1 t2 t3 hM g1 hT hw
  · exact wrongAt3 w _ _ _ n (n / 3600) (n / 60 % 60) (n % 60) q _ _ _ _ _ _ _ (by omega) hcq (dgs _ (by omega)) (dgs _ (by omega)) (dgs _ (by omega)) (dgs _ (by omega)) (dgs _ (by omega)) (dgs _ (by omega)) r0 r1 r2 (by omega) (by omega) t1 t2 t3 hM g1 hT hw
  · exact wrongAt4 w _ _ _ n (n / 3600) (n / 60 % 60) (n % 60) q _ _ _ _ _ _ _ (by omega) hcq (dgs _ (by omega)) (dgs _ (by omega)) (dgs _ (by omega)) (dgs _ (by omega)) (dgs _ (by omega)) (dgs _ (by omega)) r0 r1 r2 (by omega) (by omega) t1 t2 t3 hM g1 hT hw
  · exact wrongAt5 w _ _ _ n (n / 3600) (n / 60 % 60) (n % 60) q _ _ _ _ _ _ _ (by omega) hcq (dgs _ (by omega)) (dgs _ (by omega)) (dgs _ (by omega)) (dgs _ (by omega)) (dgs _ (by omega)) (dgs _ (by omega)) r0 r1 r2 (by omega) (by omega) t1 t2 t3 hM g1 hT hw
end Go.Proofs.YtlfbmjgmdcfbkaaDoor
