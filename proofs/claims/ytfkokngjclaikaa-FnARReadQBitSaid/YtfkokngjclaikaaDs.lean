/- The specification on rows of numbers of 32 bits: lengths, all of them, their bytes, equality. Conditions: sizes far below the machine's. -/
import Derived.Test.YtfkokngjclaikaaNo
import Derived.BigQuiet
import Derived.Test.YtfkokngjclaikaaSx
namespace Go.Proofs.Ytfkokngjclaikaa
open Go.RowKit Go.Lib
set_option linter.unusedVariables false
theorem NumsOf.keeps {w w' : World} {A : Option Addr} {LL : List (List Nat)} (h : NumsOf w A LL) (hk : Keeps (fun _ => False) w w') : NumsOf w' A LL := RowsV.keeps h hk
theorem NumsOf.at' {w : World} {A : Option Addr} {LL : List (List Nat)} (h : NumsOf w A LL) {i : Nat} {L : List Nat} (hL : LL[i]? = some L) : ∃ (ad : Addr) (B : Option Addr) (d : Nat), A = some ad ∧ ad.block < w.heap.size ∧ w.cell? (ad.add i) = some (.slice B L.length d) ∧ Rd w 1 B L.length (nv L) := by
  obtain ⟨ad, B, d, h1, h2, h3, h4⟩ := h i (nv L) (by rw [List.getElem?_map, hL]; rfl)
  rw [show (nv L).length = L.length by simp [nv]] at h3 h4
  exact ⟨ad, B, d, h1, h2, h3, h4⟩
set_option maxRecDepth 100000 in
set_option maxHeartbeats 2000000 in
theorem arSameN (w : World) (A B : Option Addr) (n c d : Nat) (LL : List (List Nat)) (hl : LL.length = n) (hA : NumsOf w A LL) (hB : NumsOf w B LL) (hn : n ≤ 100000) (hf : LL.flatten.length ≤ 100000) :
    Calls Try.prog 11 #[.slice A n c, .slice B n d] w fun e w' => Quiet w e w' := by
  have HA := Lib.hid hA
  have HB := Lib.hid hB
  have HL := Lib.hid hl
  have HF := Lib.hid hf
  clear hA hB hl hf
  go_enter Try.func11, Try.ntmps11
  go_wp2
  go_loopw [4, 5] (fun _ i wr => ∃ k m : Nat, k ≤ n ∧ i = .int .i64 k ∧ wr = w.drewN m) (fun _ i _ => n - (RowKit.intOf i).toNat)
  case atStart => exact ⟨0, 0, Nat.zero_le _, rfl, rfl⟩
  case round =>
    obtain ⟨k, m, hk, rfl, hm⟩ := hrel
    by_cases hlt : k < n
    · obtain ⟨X, hX⟩ : ∃ X, LL[k]? = some X := ⟨_, List.getElem?_eq_getElem (by rw [HL.out]; exact hlt)⟩
      have hK : Keeps (fun _ => False) w wr := by rw [hm]; exact Keeps.drewN (Keeps.refl _ _) _
      obtain ⟨ad, B1, d1, rfl, hb, hcell, hR1⟩ := (HA.out.keeps hK).at' hX
      obtain ⟨ad2, B2, d2, rfl, hb2, hcell2, hR2⟩ := (HB.out.keeps hK).at' hX
      have hXl : X.length ≤ 100000 := by
        have := flat_end' hX
        have := HF.out
        omega
      have HM := Lib.hid hm
      have HS := Lib.hid (fun z => arSameListN (wr.drewN z) B1 B2 X.length d1 d2 X rfl (hR1.keeps (Keeps.drewN (Keeps.refl _ _) z) (fun _ _ h => h)) (hR2.keeps (Keeps.drewN (Keeps.refl _ _) z) (fun _ _ h => h)) hXl)
      clear hX hm hK hR1 hR2
      go_wp2
      go_quiet ((go_at_call 22; exact Calls.quiet_of (HS.out _)))
      go_wp2
      go_roundw
      case rel => exact ⟨k + 1, m + nq, by omega, by go_num, by rw [HM.out, World.drewN_drewN]⟩
      case measure => (first | (simp [RowKit.intOf]; done) | (simp [RowKit.intOf]; omega))
    · go_wp2
      go_ret
      exact ⟨rfl, m, by first | exact hm | rfl⟩
end Go.Proofs.Ytfkokngjclaikaa
