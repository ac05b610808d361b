/- A column of strings encoded into a buffer: each string with its length ahead. Conditions: sizes far below the machine's; the column's rows lie apart from the buffer's. -/
import Derived.Test.YtfkokngjclaikaaSc
import Derived.Test.YtfkokngjclaikaaArS
import Derived.Test.YtfkokngjclaikaaUv
import Derived.Test.YtfkokngjclaikaaPut
import Derived.Deep.RegionLaw
namespace Go.Proofs.Ytfkokngjclaikaa
open Go.RowKit Go.Lib
set_option linter.unusedVariables false
/-- A piece of a slice's bytes. -/
theorem piece {P : Program} {t e : TypeId} {i : TypeInfo} (ht : P.underlying t = some (.slice e)) (hi : P.info? e = some i) (h1 : i.size = 1) {w : World} {CA : Option Addr} {N kc S m : Nat} {xs : List Value} (hR : Rd w 1 CA N xs) (hN : N ≤ kc) (hS : S + m ≤ N) :
    ∃ CX, Rd w 1 CX m ((xs.drop S).take m) ∧ ∀ w', (Instr.sliceAt t (.slice CA N kc) (some (.int .i64 (S : Int))) (some (.int .i64 ((S : Int) + (m : Int)))) none).run P w' = .ok (.slice CX m (kc - S)) w' ∧ (Instr.slice t (.slice CA N kc) (some (.int .i64 (S : Int))) (some (.int .i64 ((S : Int) + (m : Int)))) none).run P w' = .ok (.slice CX m (kc - S)) w' := by
  refine ⟨if kc = S then CA else CA.map (·.add S), ?_, fun w' => ?_⟩
  · refine ⟨?_, fun hm => ?_⟩
    · rw [List.length_take, List.length_drop, hR.1]; omega
    · obtain ⟨ad, rfl, hb, hc⟩ := hR.2 (by omega)
      rw [if_neg (by omega)]
      have := (Rd.part (lo := S) (hi := S + m) hR (by omega) hS).2 (by omega)
      simpa [Nat.add_sub_cancel_left] using this
  · have e1 : ((S : Int) + (m : Int)).toNat = S + m := by omega
    have e2 : (S : Int) + (m : Int) ≤ (kc : Int) := by omega
    have e3 : (0 : Int) ≤ (S : Int) + (m : Int) := by omega
    have e4 := run_sliceBound (P := P) w' .i64 (S : Int) (S + m) .sliceB (by omega) (by omega)
    have hs : (Instr.slice t (.slice CA N kc) (some (.int .i64 (S : Int))) (some (.int .i64 ((S : Int) + (m : Int)))) none).run P w' = .ok (.slice (if kc = S then CA else CA.map (·.add S)) m (kc - S)) w' := by
      simp [Instr.slice, run_underlying ht, Instr.sliceBounds, run_sliceBound, e1, e2, e3, e4, sizeOf, typeInfo, hi, h1]
    refine ⟨?_, hs⟩
    rw [← hs]
    simp [Instr.sliceAt, run_underlying ht]
def StrRes (w : World) (base bb : Nat) (A : Option Addr) (l : List UInt8) (L : List (List UInt8)) (e : Ending) (w' : World) : Prop := ∃ A' c', e = .returned (.tuple #[]) ∧ Put w w' base bb A A' c' (l ++ encB L)

end Go.Proofs.Ytfkokngjclaikaa
