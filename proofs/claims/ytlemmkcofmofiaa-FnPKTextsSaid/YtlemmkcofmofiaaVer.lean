/- pkVersion. Conditions: a number of 16 bits. -/
import Derived.Test.YtlemmkcofmofiaaBuf
namespace Go.Proofs.Ytlemmkcofmofiaa
open Go.RowKit
theorem pkVersion (w : World) (ver : Nat) (v : Int) (h : ver < 65536) (hv : (50000 : Int) + (ver : Int) % 4501 = v) :
    Calls Try.prog 8 #[.int .u16 ver] w fun e w' => e = .returned (.int .i64 v) ∧ w = w' := by
  have h1 : (ver : Int) ≤ 65535 := by omega
  have h2 : (0 : Int) ≤ (ver : Int) := by omega
  have HV := Lib.hid hv
  clear h hv
  go_enter Try.func8, Try.ntmps8
  go_wp2
  go_ret
  refine ⟨?_, rfl⟩
  have hv := HV.out
  subst hv
  rfl
end Go.Proofs.Ytlemmkcofmofiaa
