/- encoded: what a function that is handed in puts into a new buffer. Conditions: that function's own contract. Besides: truth values and signed numbers put into a buffer, a copy of bytes. -/
import Derived.Test.YthfoleapdmpdfaaDoorUv
import Derived.OpenShut
namespace Go.Proofs.YthfoleapdmpdfaaDoor
open Go.RowKit

set_option maxHeartbeats 400000 in
theorem encoded_any (w : World) (l : List UInt8) (f : FuncId) (first : Array Value) (hf : ∀ args w, (callFunc f args).run Tryd.prog w = .ok (.enter f args) w)
    (hcall : ∀ w1, BufAt w1 w.heap.size w.heap.size none 0 [] → Keeps (fun _ => False) w w1 →
      Calls Tryd.prog f (first.push (.pointer (some ⟨w.heap.size, 0, none⟩))) w1 fun e w2 => e = .returned (.tuple #[]) ∧ ∃ A c, Put w1 w2 w.heap.size w.heap.size none A c l) :
    Calls Tryd.prog 28 #[.func (.func f) first #[]] w fun e w' => ∃ A c, e = .returned (.slice A l.length c) ∧ w'.ownsRow w.heap.size 5 1 (.slice A l.length c) l.length (Lib.byteCells l) ∧ Keeps (fun _ => False) w w' ∧ ∀ k, ob A = some k → w.heap.size ≤ k := by
  have HC := Lib.hid hcall
  clear hcall
  go_enter Tryd.func28, Tryd.ntmps28
  go_wp2_with fail
  have hk := (Keeps.refl (fun _ => False) w).alloc (.cells #[.slice none 0 0] 63)
  refine (HC.out _ (bufNew w (Nat.le_refl _)) hk).mono ?_
  rintro e w2 ⟨rfl, A, c, hP⟩
  have hb := hP.at'
  have hc1 : w2.cell? ⟨w.heap.size, 0, none⟩ = some (.slice A l.length c) := hb.blk.cell 0
  go_wp2_with fail
  go_ret
  exact ⟨A, c, rfl, hb.own, hk.trans hP.keeps (fun i hi h => by rcases h with rfl | h; (omega); cases h), fun k hk => (hb.row_lo k hk).1⟩

set_option maxHeartbeats 400000 in
theorem putBool (w : World) (base bb : Nat) (A : Option Addr) (c : Nat) (l : List UInt8) (v : Bool) (hB : BufAt w base bb A c l) (hn : l.length < 70368744177664) :
    Calls Tryd.prog 49 #[.pointer (some ⟨bb, 0, none⟩), .bool v] w fun e w' => ∃ A' c', e = .returned (.tuple #[]) ∧ Put w w' base bb A A' c' (l ++ [if v then 1 else 0]) := by
  cases v
  · go_enter Tryd.func49, Tryd.ntmps49
    go_wp2_with fail
    refine (putByte w base bb A c l 0 0 rfl hB hn).mono ?_
    rintro e w1 ⟨A', c', rfl, hP⟩
    go_wp2_with fail
    go_end0
    first | exact ⟨A', c', rfl, hP⟩ | exact ⟨rfl, A', c', hP⟩
  · go_enter Tryd.func49, Tryd.ntmps49
    go_wp2_with fail
    refine (putByte w base bb A c l 1 1 rfl hB hn).mono ?_
    rintro e w1 ⟨A', c', rfl, hP⟩
    go_wp2_with fail
    go_end0
    first | exact ⟨A', c', rfl, hP⟩ | exact ⟨rfl, A', c', hP⟩

set_option maxRecDepth 100000 in
set_option maxHeartbeats 400000 in
theorem putInt32 (w : World) (base bb : Nat) (A : Option Addr) (c : Nat) (l : List UInt8) (v : Int) (x : Nat) (hx : IntKind.u32.wrap v = (x : Int)) (hB : BufAt w base bb A c l) (hn : l.length < 70368744177664) :
    Calls Tryd.prog 52 #[.pointer (some ⟨bb, 0, none⟩), .int .i32 v] w fun e w' => ∃ A' c', e = .returned (.tuple #[]) ∧ Put w w' base bb A A' c' (l ++ leb 4 x) := by
  have hx2 := hx
  rw [IntKind.wrap_u32'] at hx
  go_enter Tryd.func52, Tryd.ntmps52
  go_wp2_with fail
  refine (put32 w base bb A c l x hB hn).mono ?_
  rintro e w1 ⟨A', c', rfl, hP⟩
  go_wp2_with fail
  go_end0
  first | exact ⟨A', c', rfl, hP⟩ | exact ⟨rfl, A', c', hP⟩

set_option maxRecDepth 100000 in
set_option maxHeartbeats 400000 in
theorem putInt64 (w : World) (base bb : Nat) (A : Option Addr) (c : Nat) (l : List UInt8) (v : Int) (x : Nat) (hx : IntKind.u64.wrap v = (x : Int)) (hB : BufAt w base bb A c l) (hn : l.length < 70368744177664) :
    Calls Tryd.prog 53 #[.pointer (some ⟨bb, 0, none⟩), .int .i64 v] w fun e w' => ∃ A' c', e = .returned (.tuple #[]) ∧ Put w w' base bb A A' c' (l ++ leb 8 x) := by
  have hx2 := hx
  rw [IntKind.wrap_u64] at hx
  go_enter Tryd.func53, Tryd.ntmps53
  go_wp2_with fail
  refine (put64 w base bb A c l x hB hn).mono ?_
  rintro e w1 ⟨A', c', rfl, hP⟩
  go_wp2_with fail
  go_end0
  first | exact ⟨A', c', rfl, hP⟩ | exact ⟨rfl, A', c', hP⟩

set_option maxRecDepth 100000 in
set_option maxHeartbeats 400000 in
theorem putInt16 (w : World) (base bb : Nat) (A : Option Addr) (c : Nat) (l : List UInt8) (v : Int) (x : Nat) (hx : IntKind.u16.wrap v = (x : Int)) (hB : BufAt w base bb A c l) (hn : l.length < 70368744177664) :
    Calls Tryd.prog 51 #[.pointer (some ⟨bb, 0, none⟩), .int .i16 v] w fun e w' => ∃ A' c', e = .returned (.tuple #[]) ∧ Put w w' base bb A A' c' (l ++ leb 2 x) := by
  have hx2 := hx
  rw [IntKind.wrap_u16] at hx
  go_enter Tryd.func51, Tryd.ntmps51
  go_wp2_with fail
  refine (put16 w base bb A c l x hB hn).mono ?_
  rintro e w1 ⟨A', c', rfl, hP⟩
  go_wp2_with fail
  go_end0
  first | exact ⟨A', c', rfl, hP⟩ | exact ⟨rfl, A', c', hP⟩
end Go.Proofs.YthfoleapdmpdfaaDoor
