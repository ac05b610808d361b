/- BKInfoGet: what is told of a block, read again, or refused. Conditions: the argument reads as the bytes that are named. -/
import Derived.Test.YtllokbblmdadnaaBi
import Derived.Deep.QuietTactic
import Derived.BigQuiet
namespace Go.Proofs.Ytllokbblmdadnaa
open Go.RowKit
theorem fDec : ∀ args w, (callFunc 98 args).run Try.prog w = .ok (.enter 98 args) w := fun args w => by kernel_rfl
theorem results_tmp4' {fn : Func} {t u v x : Tmp} (h : fn.results = #[.tmp t, .tmp u, .tmp v, .tmp x]) (tmps : Array Value) (P : Program) (w : World) :
    (results fn tmps).run P w = .ok (.tuple #[tmps.getD t undef, tmps.getD u undef, tmps.getD v undef, tmps.getD x undef]) w := by simp [results, h]

set_option maxRecDepth 100000 in
set_option maxHeartbeats 1000000 in
theorem biGet_ok (w : World) (A : Option Addr) (c : Nat) (o : Bool) (l4 rest d : List UInt8) (h4 : l4.length = 4) (hd : d = 1 :: (if o then 1 else 0) :: 2 :: (l4 ++ (0 :: rest))) (hR : Rd w 1 A d.length (Lib.byteCells d)) (hc : d.length ≤ c) (hA : ∀ i, ob A = some i → i < w.heap.size) :
    Calls Try.prog 50 #[.slice A d.length c] w fun e w' => e = .returned (.tuple #[.bool o, .int .i64 (IntKind.i32.wrap (Lib.leNat l4)), .int .i64 rest.length, .bool true]) ∧ Keeps (fun _ => False) w w' := by
  have hmf : ∀ (fn : Fn) (first cap : Array Value) (w : World), (Instr.makeFunc fn first cap).run Try.prog w = .ok (.func fn first cap) w := fun _ _ _ _ => rfl
  have HD := Lib.hid hd
  clear hd
  have H4 := Lib.hid h4
  clear h4
  go_enter Try.func50, Try.ntmps50
  go_wp2_with fail
  have hI0 := Whole.new w 138 #[.bool false, .int .i64 0]
  refine (got_ok _ A c d rest (by exact hR.alloc _) hc (fun i hi => by have := hA i hi; simp; omega) 98 #[.pointer (some ⟨w.heap.size, 0, none⟩)] fDec (RdrX (fun i => i = w.heap.size) (w.heap.size + 1 + 1 + 1) (w.heap.size + 1 + 1) none) ?hS (fun w2 => Whole w2 w.heap.size 138 #[.bool o, .int .i64 (IntKind.i32.wrap (Lib.leNat l4))]) ?hcall).mono ?_
  case hS =>
    rw [World.size_alloc]
    rintro (h | h | h | h)
    · omega
    · omega
    · omega
    · cases h
  case hcall =>
    intro w1 hR1 hK1
    rw [World.size_alloc] at hR1 ⊢
    have hI1 := hI0.keeps hK1 (fun h => h)
    rw [HD.out] at hR1
    refine (biDecode_ok w1 _ _ _ w.heap.size (ob A) none false o 0 l4 rest H4.out hI1 (fun h => by have := hA _ h; omega) hR1).mono ?_
    rintro e w2 ⟨rfl, h1, h2, h3⟩
    exact ⟨rfl, h1, h3, h2⟩
  generalize hval : IntKind.i32.wrap (Lib.leNat l4) = val
  have HV := Lib.hid hval
  clear hval
  rintro e w3 ⟨w2, rfl, hI2, hK2, hK3⟩
  rw [World.size_alloc] at hK3
  have hI3 := hI2.keeps hK3 (by omega)
  have c0 : w3.cell? ⟨w.heap.size, 0, none⟩ = some (.bool o) := hI3.cell 0
  have c1 : w3.cell? ⟨w.heap.size, 1, none⟩ = some (.int .i64 val) := hI3.cell 1
  go_wp2_with fail
  go_quiet (fail)
  go_wp2_with fail
  refine bodyPost_ret (results_tmp4' rfl _ _ _) rfl ⟨by rw [HV.out]; rfl, ?_⟩
  refine Keeps.drewN ?_ _
  have k0 := ((Keeps.refl (fun _ => False) w).alloc (.cells #[.bool false, .int .i64 0] 138))
  refine (k0.trans hK2 ?_).trans hK3 ?_
  · rintro i hi (h | h | h | h)
    · omega
    · omega
    · omega
    · cases h
  · intro i hi h
    omega

set_option maxRecDepth 100000 in
set_option maxHeartbeats 1000000 in
theorem biGet_err (w : World) (A : Option Addr) (c : Nat) (o : Bool) (l4 d : List UInt8) (m : Nat) (h4 : l4.length = 4) (hm : m < 8) (hd : d = (1 :: (if o then 1 else 0) :: 2 :: (l4 ++ [0])).take m) (hR : Rd w 1 A d.length (Lib.byteCells d)) (hc : d.length ≤ c) (hA : ∀ i, ob A = some i → i < w.heap.size) :
    Calls Try.prog 50 #[.slice A d.length c] w fun e w' => e = .returned (.tuple #[.bool false, .int .i64 0, .int .i64 0, .bool false]) ∧ Keeps (fun _ => False) w w' := by
  have hmf : ∀ (fn : Fn) (first cap : Array Value) (w : World), (Instr.makeFunc fn first cap).run Try.prog w = .ok (.func fn first cap) w := fun _ _ _ _ => rfl
  have HD := Lib.hid hd
  clear hd
  have H4 := Lib.hid h4
  clear h4
  go_enter Try.func50, Try.ntmps50
  go_wp2_with fail
  have hI0 := Whole.new w 138 #[.bool false, .int .i64 0]
  refine (got_err _ A c d (by exact hR.alloc _) hc (fun i hi => by have := hA i hi; simp; omega) 98 #[.pointer (some ⟨w.heap.size, 0, none⟩)] fDec (RdrX (fun i => i = w.heap.size) (w.heap.size + 1 + 1 + 1) (w.heap.size + 1 + 1) none) ?hS (fun w2 => True) ?hcall).mono ?_
  case hS =>
    rw [World.size_alloc]
    rintro (h | h | h | h)
    · omega
    · omega
    · omega
    · cases h
  case hcall =>
    intro w1 hR1 hK1
    rw [World.size_alloc] at hR1 ⊢
    have hI1 := hI0.keeps hK1 (fun h => h)
    have hD : ob A ≠ some w.heap.size := fun h => by have := hA _ h; omega
    rw [HD.out] at hR1
    have h4 := H4.out
    obtain ⟨b0, b1, b2, b3, rfl⟩ := len4 h4
    have fin : ∀ (e : Ending) (w' : World), ((∃ v, e = .returned v ∧ IsErr v) ∧ Keeps (RdrX (fun i => i = w.heap.size) (w.heap.size + 1 + 1 + 1) (w.heap.size + 1 + 1) none) w1 w') → ((∃ v, e = .returned v ∧ IsErr v) ∧ Keeps (RdrX (fun i => i = w.heap.size) (w.heap.size + 1 + 1 + 1) (w.heap.size + 1 + 1) none) w1 w' ∧ True) := fun _ _ h => ⟨h.1, h.2, trivial⟩
    match m, hm with
    | 0, _ => exact (biDecode_e0 w1 _ _ _ w.heap.size (ob A) none false 0 hI1 hD hR1).mono fin
    | 1, _ => exact (biDecode_e1 w1 _ _ _ w.heap.size (ob A) none false 0 hI1 hD hR1).mono fin
    | 2, _ => exact (biDecode_e2 w1 _ _ _ w.heap.size (ob A) none false o 0 hI1 hD hR1).mono fin
    | 3, _ => exact (biDecode_e3 w1 _ _ _ w.heap.size (ob A) none false o 0 [] (by simp) hI1 hD hR1).mono fin
    | 4, _ => exact (biDecode_e3 w1 _ _ _ w.heap.size (ob A) none false o 0 [b0] (by simp) hI1 hD hR1).mono fin
    | 5, _ => exact (biDecode_e3 w1 _ _ _ w.heap.size (ob A) none false o 0 [b0, b1] (by simp) hI1 hD hR1).mono fin
    | 6, _ => exact (biDecode_e3 w1 _ _ _ w.heap.size (ob A) none false o 0 [b0, b1, b2] (by simp) hI1 hD hR1).mono fin
    | 7, _ => exact (biDecode_e7 w1 _ _ _ w.heap.size (ob A) none false o 0 [b0, b1, b2, b3] rfl hI1 hD hR1).mono fin
  rintro e w3 ⟨w2, rfl, _, hK2, hK3⟩
  rw [World.size_alloc] at hK3
  go_wp2_with fail
  refine bodyPost_ret (results_tmp4' rfl _ _ _) rfl ⟨rfl, ?_⟩
  have k0 := ((Keeps.refl (fun _ => False) w).alloc (.cells #[.bool false, .int .i64 0] 138))
  refine (k0.trans hK2 ?_).trans hK3 ?_
  · rintro i hi (h | h | h | h)
    · omega
    · omega
    · omega
    · cases h
  · intro i hi h
    omega
end Go.Proofs.Ytllokbblmdadnaa
