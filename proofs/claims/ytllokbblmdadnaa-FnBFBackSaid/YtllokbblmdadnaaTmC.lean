/- The walk of the law on floats of 16 bits, by contracts of its callees. No conditions but those that each theorem names. -/
import Derived.Test.YtllokbblmdadnaaTmA
import Derived.Lib.Hide
import Derived.WalkLawsBesides
namespace Go.Proofs.Ytllokbblmdadnaa
open Go.RowKit
theorem ext63 (n : Int) (w : World) : (callFunc 63 #[.int .u32 n]).run Try.prog w = .ok (.value (.float .f32 n.toNat)) w := by
  rw [run_callFunc_extern (e := Extern.MathFloatBits.float32frombits) Try.func63 (by kernel_rfl) (by kernel_rfl) (by kernel_rfl) (by kernel_rfl)]
  rfl
theorem ext60 (n : Nat) (w : World) : (callFunc 60 #[.float .f32 n]).run Try.prog w = .ok (.value (.int .u32 n)) w := by
  rw [run_callFunc_extern (e := Extern.MathFloatBits.float32bits) Try.func60 (by kernel_rfl) (by kernel_rfl) (by kernel_rfl) (by kernel_rfl)]
  rfl
theorem bffrom (v : Nat) (w : World) (hv : v < 65536) :
    Calls Try.prog 22 #[.int .u16 v] w fun e w' => e = .returned (.int .u32 (v * 65536)) ∧ w = w' := by
  have h1 := ext63
  have h2 := ext60
  go_enter Try.func22, Try.ntmps22
  go_wp2
  go_ret
  exact ⟨by simp, rfl⟩
theorem nan (v : Int) (w : World) (_hv : 0 ≤ v) (_h : v < 4294967296) :
    Calls Try.prog 23 #[.int .u32 v] w fun e w' => e = .returned (.bool (decide (4278190080 < v * 2 % 4294967296))) ∧ w = w' := by
  go_enter Try.func23, Try.ntmps23
  go_wp2
  go_ret
  exact ⟨rfl, rfl⟩
theorem bfto (v : Nat) (w : World) (hv : v < 65536) :
    Calls Try.prog 24 #[.int .u32 (v * 65536)] w fun e w' => e = .returned (.int .u16 v) ∧ w = w' := by
  have h1 := ext63
  have h2 := ext60
  have h4 : ((v : Int) * 65536 + (32767 + ((v % 2 : Nat) : Int))) % 4294967296 / 65536 = v := by
    rw [Int.emod_eq_of_lt (by omega) (by omega)]
    omega
  have h3 : bits .and .u32 (v : Int) 1 = ((v % 2 : Nat) : Int) := by
    rw [show (1 : Int) = ((1 : Nat) : Int) from rfl, u32_and_nat v 1 (by omega) (by omega), Nat.and_one_is_mod]
  have H4 := Lib.hid h4
  clear h4
  obtain ⟨k, hk⟩ : ∃ k, k = v % 2 := ⟨_, rfl⟩
  rw [← hk] at h3 H4
  clear hk
  go_enter Try.func24, Try.ntmps24
  go_wp2
  go_ret
  exact ⟨by simp; exact H4.out, rfl⟩
theorem bfback (a0 : Int) (w0 : (Lit.int .u16 a0).wf = true) (w : World) :
    Calls Try.prog 6 #[.int .u16 a0] w fun e w' => e = .returned (.bool true) ∧ Grown w w' := by
  have b0 := bounds_u16 w0
  obtain ⟨b0l, b0u⟩ := b0
  clear w0
  obtain ⟨v, rfl⟩ := Int.eq_ofNat_of_zero_le b0l
  by_cases h : 4278190080 < (v : Int) * 65536 * 2 % 4294967296
  · have h' := decide_eq_true h
    have h'' := Lib.hid h'
    clear h h'
    go_enter Try.func6, Try.ntmps6
    go_wp2_with fail
    refine (bffrom v _ (by omega)).mono ?_; rintro e w' ⟨rfl, rfl⟩
    go_wp2_with fail
    refine (nan _ _ (by omega) (by omega)).mono ?_; rw [h''.out]; rintro e w' ⟨rfl, rfl⟩
    go_wp2_with fail
    refine (bffrom 16256 _ (by omega)).mono ?_; rintro e w' ⟨rfl, rfl⟩
    go_wp2_with fail
    go_ret
    exact ⟨by simp, Grown.refl _⟩
  · have h' := decide_eq_false h
    have h'' := Lib.hid h'
    clear h h'
    go_enter Try.func6, Try.ntmps6
    go_wp2_with fail
    refine (bffrom v _ (by omega)).mono ?_; rintro e w' ⟨rfl, rfl⟩
    go_wp2_with fail
    refine (nan _ _ (by omega) (by omega)).mono ?_; rw [h''.out]; rintro e w' ⟨rfl, rfl⟩
    go_wp2_with fail
    refine (bfto v _ (by omega)).mono ?_; rintro e w' ⟨rfl, rfl⟩
    go_wp2_with fail
    refine (bffrom 16256 _ (by omega)).mono ?_; rintro e w' ⟨rfl, rfl⟩
    go_wp2_with fail
    go_ret
    exact ⟨by simp, Grown.refl _⟩
end Go.Proofs.Ytllokbblmdadnaa
