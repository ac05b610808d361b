/- ARStr: rows of strings encoded by a new column of arrays of strings. Conditions: sizes far below the machine's. -/
import Derived.Test.YtpbnhhfpbadhjaaGreatEo
import Derived.Test.YtpbnhhfpbadhjaaGreatSn
import Derived.Test.YtpbnhhfpbadhjaaGreatOk
namespace Go.Proofs.YtpbnhhfpbadhjaaGreat
open Go.RowKit Go.Lib
set_option linter.unusedVariables false
set_option maxRecDepth 100000 in
set_option maxHeartbeats 1000000 in
theorem arStr (w : World) (E : Option Addr) (n k0 : Nat) (LL : List (List ByteArray)) (hl : LL.length = n) (hR : RowsOf w E LL)
    (hx : ∀ L ∈ LL, ∀ x ∈ L, x.size ≤ 1000) (hf : LL.flatten.length ≤ 1000) (hn : n ≤ 1000) (hs : (LL.flatten.map sl).flatten.length ≤ 1000000) (ha : (arrB LL).length ≤ 1000000) :
    Calls Tryz.prog 11 #[.slice E n k0] w fun e w' => ArOk w (arrB LL) e w' := by
  have HS := Lib.hid (strsNew w)
  have HE := Lib.hid (fun w2 ga gs K hC => encodesOfArr w w2 w.heap.size ga gs E n k0 LL K (Nat.le_refl _) hC hl hR hx hf hn hs ha)
  clear hl hR hx hf hn hs ha
  generalize arrB LL = l at *
  go_enter Tryz.func11, Tryz.ntmps11
  go_wp2_with fail
  refine HS.out.mono ?_
  rintro e w1 ⟨ga, gs, rfl, K1, hC⟩
  have HC := Lib.hid hC
  clear hC
  go_wp2_with fail
  refine (HE.out w1 ga gs K1 HC.out).mono ?_
  rintro e w2 ⟨w3, K3, A, c, b, rfl, hb, ho, K2⟩
  go_wp2_with fail
  go_ret2
  exact ArOk.of K3 ⟨A, c, b, rfl, hb, ho, K2⟩
end Go.Proofs.YtpbnhhfpbadhjaaGreat
