/- encoded, the function that is handed in being a closure over variables. Conditions: that function's own contract. -/
import Derived.Test.YthfoleapdmpdfaaDoorEnc
namespace Go.Proofs.YthfoleapdmpdfaaDoor
open Go.RowKit

set_option maxHeartbeats 400000 in
theorem encoded_anyC (w : World) (l : List UInt8) (f : FuncId) (cap : Array Value) (hf : ∀ args w, (callFunc f args).run Tryd.prog w = .ok (.enter f args) w)
    (hcall : ∀ w1, BufAt w1 w.heap.size w.heap.size none 0 [] → Keeps (fun _ => False) w w1 →
      Calls Tryd.prog f (#[.pointer (some ⟨w.heap.size, 0, none⟩)] ++ cap) w1 fun e w2 => e = .returned (.tuple #[]) ∧ ∃ A c, Put w1 w2 w.heap.size w.heap.size none A c l) :
    Calls Tryd.prog 28 #[.func (.func f) #[] cap] w fun e w' => ∃ A c, e = .returned (.slice A l.length c) ∧ w'.ownsRow w.heap.size 5 1 (.slice A l.length c) l.length (Lib.byteCells l) ∧ Keeps (fun _ => False) w w' ∧ ∀ k, ob A = some k → w.heap.size ≤ k := by
  have HC := Lib.hid hcall
  clear hcall
  go_enter Tryd.func28, Tryd.ntmps28
  go_wp2_with fail
  have hk := (Keeps.refl (fun _ => False) w).alloc (.cells #[.slice none 0 0] 63)
  refine (HC.out _ (bufNew w (Nat.le_refl _)) hk).mono ?_
  rintro e w2 ⟨rfl, A, c, hP⟩
  have hb := hP.at'
  have hc1 : w2.cell? ⟨w.heap.size, 0, none⟩ = some (.slice A l.length c) := hb.blk.cell 0
  go_wp2_with fail
  go_ret
  exact ⟨A, c, rfl, hb.own, hk.trans hP.keeps (fun i hi h => by rcases h with rfl | h; (omega); cases h), fun k hk => (hb.row_lo k hk).1⟩

end Go.Proofs.YthfoleapdmpdfaaDoor
