/- PRPut of one varint. Conditions: the list is that one value. -/
import Derived.Test.YthfoleapdmpdfaaDoorUv
namespace Go.Proofs.YthfoleapdmpdfaaDoor
open Go.RowKit
set_option maxHeartbeats 400000 in
theorem primPut15 (w : World) (base bb : Nat) (A : Option Addr) (c : Nat) (l : List UInt8) (x y : Nat) (As : Option Addr) (ns cs : Nat) (hB : BufAt w base bb A c l) (hn : l.length < 70368744177664) (hx : x < 18446744073709551616) :
    Calls Tryd.prog 30 #[.agg #[.int .i64 15, .int .u64 x, .int .u64 y, .slice As ns cs], .pointer (some ⟨bb, 0, none⟩)] w fun e w' => ∃ A' c', e = .returned (.tuple #[]) ∧ Put w w' base bb A A' c' (l ++ Lib.uvarint x) := by
  have hlt := hB.blk.lt
  go_enter Tryd.func30, Tryd.ntmps30
  go_wp2_with fail
  have h0 : Keeps (fun _ => False) w (w.alloc (.cells #[.int .i64 15, .int .u64 x, .int .u64 y, .slice As ns cs] 28)) := (Keeps.refl _ _).alloc _
  refine (putUv _ base bb A c l x (by exact hB.keeps h0 (fun h => h) (fun _ _ h => h)) hn hx).mono ?_
  rintro e w1 ⟨A', c', rfl, hP⟩
  go_wp2_with fail
  go_end0
  exact ⟨A', c', rfl, hP.behind h0⟩

set_option maxRecDepth 100000 in
set_option maxHeartbeats 400000 in
theorem prPutOne (w : World) (g cc x : Nat) (hx : x < 18446744073709551616) (hg : Whole w g 28 #[.int .i64 15, .int .u64 x, .int .u64 0, .slice none 0 0]) :
    Calls Tryd.prog 17 #[.slice (some ⟨g, 0, none⟩) 1 cc] w fun e w' => ∃ A' c', e = .returned (.slice A' (Lib.uvarint x).length c') ∧
      w'.ownsRow w.heap.size 5 1 (.slice A' (Lib.uvarint x).length c') (Lib.uvarint x).length (Lib.byteCells (Lib.uvarint x)) ∧ Keeps (fun _ => False) w w' ∧ ∀ k, ob A' = some k → w.heap.size ≤ k := by
  have hlt := hg.lt
  have c0 : w.cell? ⟨g, 0, none⟩ = some (.int .i64 15) := hg.cell 0
  have c1 : w.cell? ⟨g, 1, none⟩ = some (.int .u64 x) := hg.cell 1
  have c2 : w.cell? ⟨g, 2, none⟩ = some (.int .u64 0) := hg.cell 2
  have c3 : w.cell? ⟨g, 3, none⟩ = some (.slice none 0 0) := hg.cell 3
  have hmf : ∀ (fn : Fn) (first cap : Array Value) (w : World), (Instr.makeFunc fn first cap).run Tryd.prog w = .ok (.func fn first cap) w := fun _ _ _ _ => rfl
  go_enter Tryd.func17, Tryd.ntmps17
  go_wp2_with (first | (go_at_call 28; go_in) | (go_at_call 29; go_in))
  refine wp_loop_rounds 2 ?_
  rw [rounds_succ]
  go_wp2_with fail
  have hB : BufAt (((w.alloc (.cells #[.slice (some ⟨g, 0, none⟩) 1 cc] 23)).alloc (.cells #[.slice none 0 0] 63)).alloc (.cells #[.int .i64 15, .int .u64 x, .int .u64 0, .slice none 0 0] 28)) w.heap.size (w.heap.size + 1) none 0 [] := by
    have h1 := bufNew (w.alloc (.cells #[.slice (some ⟨g, 0, none⟩) 1 cc] 23)) (base := w.heap.size) (by simp)
    rw [World.size_alloc] at h1
    exact h1.keeps ((Keeps.refl (fun _ => False) _).alloc _) (fun h => h) (fun _ _ h => h)
  have hK : Keeps (fun _ => False) w (((w.alloc (.cells #[.slice (some ⟨g, 0, none⟩) 1 cc] 23)).alloc (.cells #[.slice none 0 0] 63)).alloc (.cells #[.int .i64 15, .int .u64 x, .int .u64 0, .slice none 0 0] 28)) := (((Keeps.refl _ _).alloc _).alloc _).alloc _
  refine (primPut15 _ w.heap.size (w.heap.size + 1) none 0 [] x 0 none 0 0 hB (by simp) hx).mono ?_
  rintro e w1 ⟨A', c', rfl, hP⟩
  have hb1 := hP.at'
  rw [List.nil_append] at hb1
  have hc1 : w1.cell? ⟨w.heap.size + 1, 0, none⟩ = some (.slice A' (Lib.uvarint x).length c') := hb1.blk.cell 0
  go_wp2_with fail
  rw [rounds_succ]
  go_wp2_with fail
  go_end0
  go_wp2_with fail
  go_ret
  exact ⟨A', c', rfl, hb1.own, hK.trans hP.keeps (fun i hi h => by rcases h with rfl | h; (omega); cases h), fun k hk => (hb1.row_lo k hk).1⟩
end Go.Proofs.YthfoleapdmpdfaaDoor
