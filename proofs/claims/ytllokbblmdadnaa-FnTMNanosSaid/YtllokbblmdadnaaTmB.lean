/- The walks of two laws on times, by the contracts of the scale. No conditions but those that each theorem names. -/
import Derived.Test.YtllokbblmdadnaaTmA
import Derived.Lib.Hide
import Derived.WalkLawsBesides
namespace Go.Proofs.Ytllokbblmdadnaa
open Go.RowKit
theorem tmnanos (a0 : Int) (w0 : (Lit.int .i64 a0).wf = true) (w : World) :
    Calls Try.prog 8 #[.int .i64 a0] w fun e w' => e = .returned (.bool true) ∧ Grown w w' := by
  have b0 := bounds_i64 w0
  obtain ⟨b0l, b0u⟩ := b0
  clear w0
  have ht : tp (9 - (9 : Int).toNat) = 1 := by decide
  have H := Lib.hid ht
  clear ht
  go_enter Try.func8, Try.ntmps8
  go_wp2_with (first | (go_at_call 59; refine (scale_any _ _ (by omega) (by omega)).mono ?_; rw [H.out]; rintro e w' ⟨rfl, rfl⟩) | go_in)
  go_ret
  refine ⟨?_, by repeat (first | exact Grown.refl _ | apply Grown.drew | apply Grown.alloc)⟩
  try simp

theorem dtprec (a0 : Int) (w0 : (Lit.int .u8 a0).wf = true) (w : World) :
    Calls Try.prog 5 #[.int .u8 a0] w fun e w' => e = .returned (.bool true) ∧ Grown w w' := by
  have b0 := bounds_u8 w0
  obtain ⟨b0l, b0u⟩ := b0
  clear w0
  obtain ⟨n, rfl⟩ := Int.eq_ofNat_of_zero_le b0l
  have H9 := Lib.hid (show tp (9 - (9 : Int).toNat) = 1 by decide)
  by_cases h1 : n % 10 = 9
  · have HE := Lib.hid (show tp (9 - ((n : Int) % 10).toNat) = 1 by rw [show ((n : Int) % 10).toNat = 9 by omega]; rfl)
    have h2 : (n : Int) % 10 = 9 := by omega
    by_cases h : n ≤ 9
    all_goals
      go_enter Try.func5, Try.ntmps5
      go_wp2_with (first | (go_at_call 59; refine (scale_any _ _ (by omega) (by omega)).mono ?_; (first | rw [H9.out] | rw [HE.out]);  rintro e w' ⟨rfl, rfl⟩) | (go_at_call 21; refine (tick_any _ _ (by omega) (by omega)).mono ?_; (first | rw [H9.out] | rw [HE.out]);  rintro e w' ⟨rfl, rfl⟩) | (go_at_call 19; go_in) | (go_at_call 58; go_in) | (go_at_call 20; go_in))
      go_ret
      exact ⟨rfl, Grown.refl _⟩
  · obtain ⟨t, ht, hb1, hb2⟩ : ∃ t : Int, tp (9 - ((n : Int) % 10 + 1).toNat) = t ∧ 1 ≤ t ∧ t ≤ 1000000000 := ⟨_, rfl, tp_bd _ (by omega)⟩
    have HE := Lib.hid (show tp (9 - ((n : Int) % 10).toNat) = t * 10 by
      rw [← ht, show ((n : Int) % 10 + 1).toNat = n % 10 + 1 by omega, show ((n : Int) % 10).toNat = n % 10 by omega]
      exact tp_succ _ (by omega))
    have H1 := Lib.hid ht
    clear ht
    have h2 : (n : Int) % 10 < 9 := by omega
    have h3 : ((n : Int) % 10 == 9) = false := by simp; omega
    by_cases h : n ≤ 9
    all_goals
      go_enter Try.func5, Try.ntmps5
      go_wp2_with (first | (go_at_call 59; refine (scale_any _ _ (by omega) (by omega)).mono ?_; (first | rw [H9.out] | rw [HE.out] | rw [H1.out]);  rintro e w' ⟨rfl, rfl⟩) | (go_at_call 21; refine (tick_any _ _ (by omega) (by omega)).mono ?_; (first | rw [H9.out] | rw [HE.out]);  rintro e w' ⟨rfl, rfl⟩) | (go_at_call 19; go_in) | (go_at_call 58; go_in) | (go_at_call 20; go_in))
      go_ret
      exact ⟨by simp; omega, Grown.refl _⟩
end Go.Proofs.Ytllokbblmdadnaa
