/- Progress put and read. Conditions: numbers of 64 bits. -/
import Derived.Test.YtlemmkcofmofiaaPg
import Derived.Test.YtlemmkcofmofiaaPgDec
namespace Go.Proofs.Ytlemmkcofmofiaa
open Go.RowKit
set_option linter.unusedVariables false
theorem fPutAware : ∀ args w, (callFunc 69 args).run Try.prog w = .ok (.enter 69 args) w := fun args w => by kernel_rfl
theorem fGotAware : ∀ args w, (callFunc 71 args).run Try.prog w = .ok (.enter 71 args) w := fun args w => by kernel_rfl
theorem results_cell3 {P : Program} {fn : Func} {t u v : Tmp} {ty : TypeId} (h : fn.results = #[.cell t ty, .tmp u, .tmp v]) (tmps : Array Value) (p : Addr) (w : World) (x : Value) (hp : tmps.getD t undef = .pointer (some p)) (hx : (loadVar ty p).run P w = .ok x w) :
    (results fn tmps).run P w = .ok (.tuple #[x, tmps.getD u undef, tmps.getD v undef]) w := by
  have hp2 : tmps[t]?.getD undef = .pointer (some p) := by simpa using hp
  simp [results, h, hp2, asAddr, hx]
theorem results_cell1 {P : Program} {fn : Func} {t : Tmp} {ty : TypeId} (h : fn.results = #[.cell t ty]) (tmps : Array Value) (p : Addr) (w : World) (x : Value) (hp : tmps.getD t undef = .pointer (some p)) (hx : (loadVar ty p).run P w = .ok x w) :
    (results fn tmps).run P w = .ok x w := by
  have hp2 : tmps[t]?.getD undef = .pointer (some p) := by simpa using hp
  simp [results, h, hp2, asAddr, hx]
theorem infoPg : (Try.prog.info? 24).map (·.size) = some 6 := by kernel_rfl
theorem own_lower {w : World} {b b' : Nat} {e : TypeId} {size n : Nat} {v : Value} {xs : List Value} (h : w.ownsRow b e size v n xs) (hb : b' ≤ b) : w.ownsRow b' e size v n xs := by
  refine ⟨h.1, ?_⟩
  rcases h.2 with hn | ⟨g', cap, cur, rfl, hlo, rest⟩
  · exact .inl hn
  · exact .inr ⟨g', cap, cur, rfl, Nat.le_trans hb hlo, rest⟩

set_option maxRecDepth 100000 in
set_option maxHeartbeats 1000000 in
theorem pgPut3 (w : World) (v : Int) (hv : v < 54420) (p0 p1 p2 p3 p4 p5 : Nat) (h0 : p0 < 18446744073709551616) (h1 : p1 < 18446744073709551616) (h2 : p2 < 18446744073709551616) (h3 : p3 < 18446744073709551616) (h4 : p4 < 18446744073709551616) (h5 : p5 < 18446744073709551616) :
    Calls Try.prog 9 #[.agg #[.int .u64 p0, .int .u64 p1, .int .u64 p2, .int .u64 p3, .int .u64 p4, .int .u64 p5], .int .i64 v] w fun e w' => ∃ A c, e = .returned (.slice A (Lib.uvarint p0 ++ (Lib.uvarint p1 ++ (Lib.uvarint p2))).length c) ∧ w'.ownsRow w.heap.size 5 1 (.slice A (Lib.uvarint p0 ++ (Lib.uvarint p1 ++ (Lib.uvarint p2))).length c) (Lib.uvarint p0 ++ (Lib.uvarint p1 ++ (Lib.uvarint p2))).length (Lib.byteCells (Lib.uvarint p0 ++ (Lib.uvarint p1 ++ (Lib.uvarint p2)))) ∧ Keeps (fun _ => False) w w' ∧ ∀ k, ob A = some k → w.heap.size ≤ k := by
  have hmf : ∀ (fn : Fn) (first cap : Array Value) (w : World), (Instr.makeFunc fn first cap).run Try.prog w = .ok (.func fn first cap) w := fun _ _ _ _ => rfl
  have HV := Lib.hid (fun (w1 : World) (bb : Nat) (hB : BufAt w1 bb bb none 0 []) => pgEncode3 w1 bb bb none 0 [] v hv p0 p1 p2 p3 p4 p5 h0 h1 h2 h3 h4 h5 hB (by simp))
  clear hv h0 h1 h2 h3 h4 h5
  have k0 := (((Keeps.refl (fun _ => False) w).alloc (.cells #[.int .u64 p0, .int .u64 p1, .int .u64 p2, .int .u64 p3, .int .u64 p4, .int .u64 p5] 24)).alloc (.cells #[.iface 74 (.agg #[.int .u64 p0, .int .u64 p1, .int .u64 p2, .int .u64 p3, .int .u64 p4, .int .u64 p5])] 128)).alloc (.cells #[.int .i64 v] 3)
  have hA : Whole (((w.alloc (.cells #[.int .u64 p0, .int .u64 p1, .int .u64 p2, .int .u64 p3, .int .u64 p4, .int .u64 p5] 24)).alloc (.cells #[.iface 74 (.agg #[.int .u64 p0, .int .u64 p1, .int .u64 p2, .int .u64 p3, .int .u64 p4, .int .u64 p5])] 128)).alloc (.cells #[.int .i64 v] 3)) (w.heap.size + 1) 128 #[.iface 74 (.agg #[.int .u64 p0, .int .u64 p1, .int .u64 p2, .int .u64 p3, .int .u64 p4, .int .u64 p5])] := by have h := (Whole.new (w.alloc (.cells #[.int .u64 p0, .int .u64 p1, .int .u64 p2, .int .u64 p3, .int .u64 p4, .int .u64 p5] 24)) 128 #[.iface 74 (.agg #[.int .u64 p0, .int .u64 p1, .int .u64 p2, .int .u64 p3, .int .u64 p4, .int .u64 p5])]).alloc (.cells #[.int .i64 v] 3); rw [World.size_alloc] at h; exact h
  have hC : Whole (((w.alloc (.cells #[.int .u64 p0, .int .u64 p1, .int .u64 p2, .int .u64 p3, .int .u64 p4, .int .u64 p5] 24)).alloc (.cells #[.iface 74 (.agg #[.int .u64 p0, .int .u64 p1, .int .u64 p2, .int .u64 p3, .int .u64 p4, .int .u64 p5])] 128)).alloc (.cells #[.int .i64 v] 3)) (w.heap.size + 1 + 1) 3 #[.int .i64 v] := by have h := Whole.new ((w.alloc (.cells #[.int .u64 p0, .int .u64 p1, .int .u64 p2, .int .u64 p3, .int .u64 p4, .int .u64 p5] 24)).alloc (.cells #[.iface 74 (.agg #[.int .u64 p0, .int .u64 p1, .int .u64 p2, .int .u64 p3, .int .u64 p4, .int .u64 p5])] 128)) 3 #[.int .i64 v]; rw [World.size_alloc, World.size_alloc] at h; exact h
  have henc := encoded_anyC (((w.alloc (.cells #[.int .u64 p0, .int .u64 p1, .int .u64 p2, .int .u64 p3, .int .u64 p4, .int .u64 p5] 24)).alloc (.cells #[.iface 74 (.agg #[.int .u64 p0, .int .u64 p1, .int .u64 p2, .int .u64 p3, .int .u64 p4, .int .u64 p5])] 128)).alloc (.cells #[.int .i64 v] 3)) (Lib.uvarint p0 ++ (Lib.uvarint p1 ++ (Lib.uvarint p2))) 69 #[.pointer (some ⟨w.heap.size + 1, 0, none⟩), .pointer (some ⟨w.heap.size + 1 + 1, 0, none⟩)] fPutAware (by
    intro w1 hB1 hK1
    have hA1 := hA.keeps hK1 (fun h => h)
    have hC1 := hC.keeps hK1 (fun h => h)
    have a0 : w1.cell? ⟨w.heap.size + 1, 0, none⟩ = some (.iface 74 (.agg #[.int .u64 p0, .int .u64 p1, .int .u64 p2, .int .u64 p3, .int .u64 p4, .int .u64 p5])) := hA1.cell 0
    have c0 : w1.cell? ⟨w.heap.size + 1 + 1, 0, none⟩ = some (.int .i64 v) := hC1.cell 0
    have la := hA1.lt
    have lc := hC1.lt
    have henc := HV.out w1 _ hB1
    generalize (World.heap (((w.alloc (.cells #[.int .u64 p0, .int .u64 p1, .int .u64 p2, .int .u64 p3, .int .u64 p4, .int .u64 p5] 24)).alloc (.cells #[.iface 74 (.agg #[.int .u64 p0, .int .u64 p1, .int .u64 p2, .int .u64 p3, .int .u64 p4, .int .u64 p5])] 128)).alloc (.cells #[.int .i64 v] 3))).size = bb at hB1 henc ⊢
    clear hA hC hA1 hC1 k0 hK1 HV hB1
    show Calls Try.prog 69 #[.pointer (some ⟨bb, 0, none⟩), .pointer (some ⟨w.heap.size + 1, 0, none⟩), .pointer (some ⟨w.heap.size + 1 + 1, 0, none⟩)] w1 _
    go_enter Try.func69, Try.ntmps69
    go_wp2_with fail
    refine henc.mono ?_
    rintro e w2 ⟨A, c, rfl, hP⟩
    go_wp2_with fail
    go_end0
    first | exact ⟨rfl, A, c, hP⟩ | exact ⟨A, c, hP⟩)
  clear HV
  generalize Lib.uvarint p0 ++ (Lib.uvarint p1 ++ (Lib.uvarint p2)) = d at henc ⊢
  go_enter Try.func9, Try.ntmps9
  go_wp2_with (first | (go_at_call 40; go_in))
  refine henc.mono ?_
  clear henc
  rintro e w2 ⟨A, c, rfl, hown, hK, hA⟩
  go_wp2_with fail
  go_ret
  exact ⟨A, c, rfl, own_lower hown k0.size, k0.trans hK (fun _ _ h => h), fun i hi => Nat.le_trans k0.size (hA i hi)⟩

set_option maxRecDepth 100000 in
set_option maxHeartbeats 1000000 in
theorem pgPut5 (w : World) (v : Int) (hv : 54420 ≤ v) (hv2 : v < 54460) (p0 p1 p2 p3 p4 p5 : Nat) (h0 : p0 < 18446744073709551616) (h1 : p1 < 18446744073709551616) (h2 : p2 < 18446744073709551616) (h3 : p3 < 18446744073709551616) (h4 : p4 < 18446744073709551616) (h5 : p5 < 18446744073709551616) :
    Calls Try.prog 9 #[.agg #[.int .u64 p0, .int .u64 p1, .int .u64 p2, .int .u64 p3, .int .u64 p4, .int .u64 p5], .int .i64 v] w fun e w' => ∃ A c, e = .returned (.slice A (Lib.uvarint p0 ++ (Lib.uvarint p1 ++ (Lib.uvarint p2 ++ (Lib.uvarint p3 ++ (Lib.uvarint p4))))).length c) ∧ w'.ownsRow w.heap.size 5 1 (.slice A (Lib.uvarint p0 ++ (Lib.uvarint p1 ++ (Lib.uvarint p2 ++ (Lib.uvarint p3 ++ (Lib.uvarint p4))))).length c) (Lib.uvarint p0 ++ (Lib.uvarint p1 ++ (Lib.uvarint p2 ++ (Lib.uvarint p3 ++ (Lib.uvarint p4))))).length (Lib.byteCells (Lib.uvarint p0 ++ (Lib.uvarint p1 ++ (Lib.uvarint p2 ++ (Lib.uvarint p3 ++ (Lib.uvarint p4)))))) ∧ Keeps (fun _ => False) w w' ∧ ∀ k, ob A = some k → w.heap.size ≤ k := by
  have hmf : ∀ (fn : Fn) (first cap : Array Value) (w : World), (Instr.makeFunc fn first cap).run Try.prog w = .ok (.func fn first cap) w := fun _ _ _ _ => rfl
  have HV := Lib.hid (fun (w1 : World) (bb : Nat) (hB : BufAt w1 bb bb none 0 []) => pgEncode5 w1 bb bb none 0 [] v hv hv2 p0 p1 p2 p3 p4 p5 h0 h1 h2 h3 h4 h5 hB (by simp))
  clear hv hv2 h0 h1 h2 h3 h4 h5
  have k0 := (((Keeps.refl (fun _ => False) w).alloc (.cells #[.int .u64 p0, .int .u64 p1, .int .u64 p2, .int .u64 p3, .int .u64 p4, .int .u64 p5] 24)).alloc (.cells #[.iface 74 (.agg #[.int .u64 p0, .int .u64 p1, .int .u64 p2, .int .u64 p3, .int .u64 p4, .int .u64 p5])] 128)).alloc (.cells #[.int .i64 v] 3)
  have hA : Whole (((w.alloc (.cells #[.int .u64 p0, .int .u64 p1, .int .u64 p2, .int .u64 p3, .int .u64 p4, .int .u64 p5] 24)).alloc (.cells #[.iface 74 (.agg #[.int .u64 p0, .int .u64 p1, .int .u64 p2, .int .u64 p3, .int .u64 p4, .int .u64 p5])] 128)).alloc (.cells #[.int .i64 v] 3)) (w.heap.size + 1) 128 #[.iface 74 (.agg #[.int .u64 p0, .int .u64 p1, .int .u64 p2, .int .u64 p3, .int .u64 p4, .int .u64 p5])] := by have h := (Whole.new (w.alloc (.cells #[.int .u64 p0, .int .u64 p1, .int .u64 p2, .int .u64 p3, .int .u64 p4, .int .u64 p5] 24)) 128 #[.iface 74 (.agg #[.int .u64 p0, .int .u64 p1, .int .u64 p2, .int .u64 p3, .int .u64 p4, .int .u64 p5])]).alloc (.cells #[.int .i64 v] 3); rw [World.size_alloc] at h; exact h
  have hC : Whole (((w.alloc (.cells #[.int .u64 p0, .int .u64 p1, .int .u64 p2, .int .u64 p3, .int .u64 p4, .int .u64 p5] 24)).alloc (.cells #[.iface 74 (.agg #[.int .u64 p0, .int .u64 p1, .int .u64 p2, .int .u64 p3, .int .u64 p4, .int .u64 p5])] 128)).alloc (.cells #[.int .i64 v] 3)) (w.heap.size + 1 + 1) 3 #[.int .i64 v] := by have h := Whole.new ((w.alloc (.cells #[.int .u64 p0, .int .u64 p1, .int .u64 p2, .int .u64 p3, .int .u64 p4, .int .u64 p5] 24)).alloc (.cells #[.iface 74 (.agg #[.int .u64 p0, .int .u64 p1, .int .u64 p2, .int .u64 p3, .int .u64 p4, .int .u64 p5])] 128)) 3 #[.int .i64 v]; rw [World.size_alloc, World.size_alloc] at h; exact h
  have henc := encoded_anyC (((w.alloc (.cells #[.int .u64 p0, .int .u64 p1, .int .u64 p2, .int .u64 p3, .int .u64 p4, .int .u64 p5] 24)).alloc (.cells #[.iface 74 (.agg #[.int .u64 p0, .int .u64 p1, .int .u64 p2, .int .u64 p3, .int .u64 p4, .int .u64 p5])] 128)).alloc (.cells #[.int .i64 v] 3)) (Lib.uvarint p0 ++ (Lib.uvarint p1 ++ (Lib.uvarint p2 ++ (Lib.uvarint p3 ++ (Lib.uvarint p4))))) 69 #[.pointer (some ⟨w.heap.size + 1, 0, none⟩), .pointer (some ⟨w.heap.size + 1 + 1, 0, none⟩)] fPutAware (by
    intro w1 hB1 hK1
    have hA1 := hA.keeps hK1 (fun h => h)
    have hC1 := hC.keeps hK1 (fun h => h)
    have a0 : w1.cell? ⟨w.heap.size + 1, 0, none⟩ = some (.iface 74 (.agg #[.int .u64 p0, .int .u64 p1, .int .u64 p2, .int .u64 p3, .int .u64 p4, .int .u64 p5])) := hA1.cell 0
    have c0 : w1.cell? ⟨w.heap.size + 1 + 1, 0, none⟩ = some (.int .i64 v) := hC1.cell 0
    have la := hA1.lt
    have lc := hC1.lt
    have henc := HV.out w1 _ hB1
    generalize (World.heap (((w.alloc (.cells #[.int .u64 p0, .int .u64 p1, .int .u64 p2, .int .u64 p3, .int .u64 p4, .int .u64 p5] 24)).alloc (.cells #[.iface 74 (.agg #[.int .u64 p0, .int .u64 p1, .int .u64 p2, .int .u64 p3, .int .u64 p4, .int .u64 p5])] 128)).alloc (.cells #[.int .i64 v] 3))).size = bb at hB1 henc ⊢
    clear hA hC hA1 hC1 k0 hK1 HV hB1
    show Calls Try.prog 69 #[.pointer (some ⟨bb, 0, none⟩), .pointer (some ⟨w.heap.size + 1, 0, none⟩), .pointer (some ⟨w.heap.size + 1 + 1, 0, none⟩)] w1 _
    go_enter Try.func69, Try.ntmps69
    go_wp2_with fail
    refine henc.mono ?_
    rintro e w2 ⟨A, c, rfl, hP⟩
    go_wp2_with fail
    go_end0
    first | exact ⟨rfl, A, c, hP⟩ | exact ⟨A, c, hP⟩)
  clear HV
  generalize Lib.uvarint p0 ++ (Lib.uvarint p1 ++ (Lib.uvarint p2 ++ (Lib.uvarint p3 ++ (Lib.uvarint p4)))) = d at henc ⊢
  go_enter Try.func9, Try.ntmps9
  go_wp2_with (first | (go_at_call 40; go_in))
  refine henc.mono ?_
  clear henc
  rintro e w2 ⟨A, c, rfl, hown, hK, hA⟩
  go_wp2_with fail
  go_ret
  exact ⟨A, c, rfl, own_lower hown k0.size, k0.trans hK (fun _ _ h => h), fun i hi => Nat.le_trans k0.size (hA i hi)⟩

set_option maxRecDepth 100000 in
set_option maxHeartbeats 1000000 in
theorem pgPut6 (w : World) (v : Int) (hv : 54460 ≤ v) (p0 p1 p2 p3 p4 p5 : Nat) (h0 : p0 < 18446744073709551616) (h1 : p1 < 18446744073709551616) (h2 : p2 < 18446744073709551616) (h3 : p3 < 18446744073709551616) (h4 : p4 < 18446744073709551616) (h5 : p5 < 18446744073709551616) :
    Calls Try.prog 9 #[.agg #[.int .u64 p0, .int .u64 p1, .int .u64 p2, .int .u64 p3, .int .u64 p4, .int .u64 p5], .int .i64 v] w fun e w' => ∃ A c, e = .returned (.slice A (Lib.uvarint p0 ++ (Lib.uvarint p1 ++ (Lib.uvarint p2 ++ (Lib.uvarint p3 ++ (Lib.uvarint p4 ++ (Lib.uvarint p5)))))).length c) ∧ w'.ownsRow w.heap.size 5 1 (.slice A (Lib.uvarint p0 ++ (Lib.uvarint p1 ++ (Lib.uvarint p2 ++ (Lib.uvarint p3 ++ (Lib.uvarint p4 ++ (Lib.uvarint p5)))))).length c) (Lib.uvarint p0 ++ (Lib.uvarint p1 ++ (Lib.uvarint p2 ++ (Lib.uvarint p3 ++ (Lib.uvarint p4 ++ (Lib.uvarint p5)))))).length (Lib.byteCells (Lib.uvarint p0 ++ (Lib.uvarint p1 ++ (Lib.uvarint p2 ++ (Lib.uvarint p3 ++ (Lib.uvarint p4 ++ (Lib.uvarint p5))))))) ∧ Keeps (fun _ => False) w w' ∧ ∀ k, ob A = some k → w.heap.size ≤ k := by
  have hmf : ∀ (fn : Fn) (first cap : Array Value) (w : World), (Instr.makeFunc fn first cap).run Try.prog w = .ok (.func fn first cap) w := fun _ _ _ _ => rfl
  have HV := Lib.hid (fun (w1 : World) (bb : Nat) (hB : BufAt w1 bb bb none 0 []) => pgEncode6 w1 bb bb none 0 [] v hv p0 p1 p2 p3 p4 p5 h0 h1 h2 h3 h4 h5 hB (by simp))
  clear hv h0 h1 h2 h3 h4 h5
  have k0 := (((Keeps.refl (fun _ => False) w).alloc (.cells #[.int .u64 p0, .int .u64 p1, .int .u64 p2, .int .u64 p3, .int .u64 p4, .int .u64 p5] 24)).alloc (.cells #[.iface 74 (.agg #[.int .u64 p0, .int .u64 p1, .int .u64 p2, .int .u64 p3, .int .u64 p4, .int .u64 p5])] 128)).alloc (.cells #[.int .i64 v] 3)
  have hA : Whole (((w.alloc (.cells #[.int .u64 p0, .int .u64 p1, .int .u64 p2, .int .u64 p3, .int .u64 p4, .int .u64 p5] 24)).alloc (.cells #[.iface 74 (.agg #[.int .u64 p0, .int .u64 p1, .int .u64 p2, .int .u64 p3, .int .u64 p4, .int .u64 p5])] 128)).alloc (.cells #[.int .i64 v] 3)) (w.heap.size + 1) 128 #[.iface 74 (.agg #[.int .u64 p0, .int .u64 p1, .int .u64 p2, .int .u64 p3, .int .u64 p4, .int .u64 p5])] := by have h := (Whole.new (w.alloc (.cells #[.int .u64 p0, .int .u64 p1, .int .u64 p2, .int .u64 p3, .int .u64 p4, .int .u64 p5] 24)) 128 #[.iface 74 (.agg #[.int .u64 p0, .int .u64 p1, .int .u64 p2, .int .u64 p3, .int .u64 p4, .int .u64 p5])]).alloc (.cells #[.int .i64 v] 3); rw [World.size_alloc] at h; exact h
  have hC : Whole (((w.alloc (.cells #[.int .u64 p0, .int .u64 p1, .int .u64 p2, .int .u64 p3, .int .u64 p4, .int .u64 p5] 24)).alloc (.cells #[.iface 74 (.agg #[.int .u64 p0, .int .u64 p1, .int .u64 p2, .int .u64 p3, .int .u64 p4, .int .u64 p5])] 128)).alloc (.cells #[.int .i64 v] 3)) (w.heap.size + 1 + 1) 3 #[.int .i64 v] := by have h := Whole.new ((w.alloc (.cells #[.int .u64 p0, .int .u64 p1, .int .u64 p2, .int .u64 p3, .int .u64 p4, .int .u64 p5] 24)).alloc (.cells #[.iface 74 (.agg #[.int .u64 p0, .int .u64 p1, .int .u64 p2, .int .u64 p3, .int .u64 p4, .int .u64 p5])] 128)) 3 #[.int .i64 v]; rw [World.size_alloc, World.size_alloc] at h; exact h
  have henc := encoded_anyC (((w.alloc (.cells #[.int .u64 p0, .int .u64 p1, .int .u64 p2, .int .u64 p3, .int .u64 p4, .int .u64 p5] 24)).alloc (.cells #[.iface 74 (.agg #[.int .u64 p0, .int .u64 p1, .int .u64 p2, .int .u64 p3, .int .u64 p4, .int .u64 p5])] 128)).alloc (.cells #[.int .i64 v] 3)) (Lib.uvarint p0 ++ (Lib.uvarint p1 ++ (Lib.uvarint p2 ++ (Lib.uvarint p3 ++ (Lib.uvarint p4 ++ (Lib.uvarint p5)))))) 69 #[.pointer (some ⟨w.heap.size + 1, 0, none⟩), .pointer (some ⟨w.heap.size + 1 + 1, 0, none⟩)] fPutAware (by
    intro w1 hB1 hK1
    have hA1 := hA.keeps hK1 (fun h => h)
    have hC1 := hC.keeps hK1 (fun h => h)
    have a0 : w1.cell? ⟨w.heap.size + 1, 0, none⟩ = some (.iface 74 (.agg #[.int .u64 p0, .int .u64 p1, .int .u64 p2, .int .u64 p3, .int .u64 p4, .int .u64 p5])) := hA1.cell 0
    have c0 : w1.cell? ⟨w.heap.size + 1 + 1, 0, none⟩ = some (.int .i64 v) := hC1.cell 0
    have la := hA1.lt
    have lc := hC1.lt
    have henc := HV.out w1 _ hB1
    generalize (World.heap (((w.alloc (.cells #[.int .u64 p0, .int .u64 p1, .int .u64 p2, .int .u64 p3, .int .u64 p4, .int .u64 p5] 24)).alloc (.cells #[.iface 74 (.agg #[.int .u64 p0, .int .u64 p1, .int .u64 p2, .int .u64 p3, .int .u64 p4, .int .u64 p5])] 128)).alloc (.cells #[.int .i64 v] 3))).size = bb at hB1 henc ⊢
    clear hA hC hA1 hC1 k0 hK1 HV hB1
    show Calls Try.prog 69 #[.pointer (some ⟨bb, 0, none⟩), .pointer (some ⟨w.heap.size + 1, 0, none⟩), .pointer (some ⟨w.heap.size + 1 + 1, 0, none⟩)] w1 _
    go_enter Try.func69, Try.ntmps69
    go_wp2_with fail
    refine henc.mono ?_
    rintro e w2 ⟨A, c, rfl, hP⟩
    go_wp2_with fail
    go_end0
    first | exact ⟨rfl, A, c, hP⟩ | exact ⟨A, c, hP⟩)
  clear HV
  generalize Lib.uvarint p0 ++ (Lib.uvarint p1 ++ (Lib.uvarint p2 ++ (Lib.uvarint p3 ++ (Lib.uvarint p4 ++ (Lib.uvarint p5))))) = d at henc ⊢
  go_enter Try.func9, Try.ntmps9
  go_wp2_with (first | (go_at_call 40; go_in))
  refine henc.mono ?_
  clear henc
  rintro e w2 ⟨A, c, rfl, hown, hK, hA⟩
  go_wp2_with fail
  go_ret
  exact ⟨A, c, rfl, own_lower hown k0.size, k0.trans hK (fun _ _ h => h), fun i hi => Nat.le_trans k0.size (hA i hi)⟩

set_option maxRecDepth 100000 in
set_option maxHeartbeats 2000000 in
theorem pgGet3_ok (w : World) (A : Option Addr) (c : Nat) (v : Int) (hv : v < 54420) (p0 p1 p2 p3 p4 p5 : Nat) (h0 : p0 < 18446744073709551616) (h1 : p1 < 18446744073709551616) (h2 : p2 < 18446744073709551616) (h3 : p3 < 18446744073709551616) (h4 : p4 < 18446744073709551616) (h5 : p5 < 18446744073709551616) (rest d : List UInt8) (hd : d = (Lib.uvarint p0 ++ (Lib.uvarint p1 ++ (Lib.uvarint p2))) ++ rest) (hR : Rd w 1 A d.length (Lib.byteCells d)) (hc : d.length ≤ c) (hA : ∀ i, ob A = some i → i < w.heap.size) :
    Calls Try.prog 12 #[.slice A d.length c, .int .i64 v] w fun e w' => e = .returned (.tuple #[.agg #[.int .u64 p0, .int .u64 p1, .int .u64 p2, .int .u64 0, .int .u64 0, .int .u64 0], .int .i64 rest.length, .bool true]) ∧ Keeps (fun _ => False) w w' := by
  have hmf : ∀ (fn : Fn) (first cap : Array Value) (w : World), (Instr.makeFunc fn first cap).run Try.prog w = .ok (.func fn first cap) w := fun _ _ _ _ => rfl
  have hdec := Lib.hid (fun (w1 : World) (base rb bb g : Nat) (D R : Option Nat) (hI : Whole w1 g 74 #[.int .u64 0, .int .u64 0, .int .u64 0, .int .u64 0, .int .u64 0, .int .u64 0]) (hD : D ≠ some g) (hR : RdrOn w1 base rb bb D R d) => pgDecode3 w1 base rb bb g D R v hv p0 p1 p2 d.length h0 h1 h2 (Lib.uvarint p0 ++ (Lib.uvarint p1 ++ (Lib.uvarint p2 ++ rest))) (Lib.uvarint p1 ++ (Lib.uvarint p2 ++ rest)) (Lib.uvarint p2 ++ rest) rest rfl rfl rfl hI hD (by rw [List.take_of_length_le (by rw [hd]; simp)]; have e : d = Lib.uvarint p0 ++ (Lib.uvarint p1 ++ (Lib.uvarint p2 ++ rest)) := (by rw [hd]; simp); rw [← e]; exact hR))
  clear hv h0 h1 h2 h3 h4 h5
  have hL : d.length = (Lib.uvarint p0).length + (Lib.uvarint p1).length + (Lib.uvarint p2).length + rest.length := by rw [hd]; simp; omega
  clear hd 
  have k0 := ((((Keeps.refl (fun _ => False) w).alloc (.cells #[.int .u64 0, .int .u64 0, .int .u64 0, .int .u64 0, .int .u64 0, .int .u64 0] 24)).alloc (.cells #[.int .u64 0, .int .u64 0, .int .u64 0, .int .u64 0, .int .u64 0, .int .u64 0] 74)).alloc (.cells #[.iface 79 (.pointer (some ⟨w.heap.size + 1, 0, none⟩))] 135)).alloc (.cells #[.int .i64 v] 3)
  have hsz : (World.heap ((((w.alloc (.cells #[.int .u64 0, .int .u64 0, .int .u64 0, .int .u64 0, .int .u64 0, .int .u64 0] 24)).alloc (.cells #[.int .u64 0, .int .u64 0, .int .u64 0, .int .u64 0, .int .u64 0, .int .u64 0] 74)).alloc (.cells #[.iface 79 (.pointer (some ⟨w.heap.size + 1, 0, none⟩))] 135)).alloc (.cells #[.int .i64 v] 3))).size = w.heap.size + 1 + 1 + 1 + 1 := by simp only [World.size_alloc]
  have hZ : Whole ((((w.alloc (.cells #[.int .u64 0, .int .u64 0, .int .u64 0, .int .u64 0, .int .u64 0, .int .u64 0] 24)).alloc (.cells #[.int .u64 0, .int .u64 0, .int .u64 0, .int .u64 0, .int .u64 0, .int .u64 0] 74)).alloc (.cells #[.iface 79 (.pointer (some ⟨w.heap.size + 1, 0, none⟩))] 135)).alloc (.cells #[.int .i64 v] 3)) w.heap.size 24 #[.int .u64 0, .int .u64 0, .int .u64 0, .int .u64 0, .int .u64 0, .int .u64 0] := (((Whole.new w 24 #[.int .u64 0, .int .u64 0, .int .u64 0, .int .u64 0, .int .u64 0, .int .u64 0]).alloc _).alloc _).alloc _
  have hI : Whole ((((w.alloc (.cells #[.int .u64 0, .int .u64 0, .int .u64 0, .int .u64 0, .int .u64 0, .int .u64 0] 24)).alloc (.cells #[.int .u64 0, .int .u64 0, .int .u64 0, .int .u64 0, .int .u64 0, .int .u64 0] 74)).alloc (.cells #[.iface 79 (.pointer (some ⟨w.heap.size + 1, 0, none⟩))] 135)).alloc (.cells #[.int .i64 v] 3)) (w.heap.size + 1) 74 #[.int .u64 0, .int .u64 0, .int .u64 0, .int .u64 0, .int .u64 0, .int .u64 0] := by have h := ((Whole.new (w.alloc (.cells #[.int .u64 0, .int .u64 0, .int .u64 0, .int .u64 0, .int .u64 0, .int .u64 0] 24)) 74 #[.int .u64 0, .int .u64 0, .int .u64 0, .int .u64 0, .int .u64 0, .int .u64 0]).alloc (.cells #[.iface 79 (.pointer (some ⟨w.heap.size + 1, 0, none⟩))] 135)).alloc (.cells #[.int .i64 v] 3); simp only [World.size_alloc] at h; exact h
  have hP : Whole ((((w.alloc (.cells #[.int .u64 0, .int .u64 0, .int .u64 0, .int .u64 0, .int .u64 0, .int .u64 0] 24)).alloc (.cells #[.int .u64 0, .int .u64 0, .int .u64 0, .int .u64 0, .int .u64 0, .int .u64 0] 74)).alloc (.cells #[.iface 79 (.pointer (some ⟨w.heap.size + 1, 0, none⟩))] 135)).alloc (.cells #[.int .i64 v] 3)) (w.heap.size + 1 + 1) 135 #[.iface 79 (.pointer (some ⟨w.heap.size + 1, 0, none⟩))] := by have h := (Whole.new ((w.alloc (.cells #[.int .u64 0, .int .u64 0, .int .u64 0, .int .u64 0, .int .u64 0, .int .u64 0] 24)).alloc (.cells #[.int .u64 0, .int .u64 0, .int .u64 0, .int .u64 0, .int .u64 0, .int .u64 0] 74)) 135 #[.iface 79 (.pointer (some ⟨w.heap.size + 1, 0, none⟩))]).alloc (.cells #[.int .i64 v] 3); simp only [World.size_alloc] at h; exact h
  have hN : Whole ((((w.alloc (.cells #[.int .u64 0, .int .u64 0, .int .u64 0, .int .u64 0, .int .u64 0, .int .u64 0] 24)).alloc (.cells #[.int .u64 0, .int .u64 0, .int .u64 0, .int .u64 0, .int .u64 0, .int .u64 0] 74)).alloc (.cells #[.iface 79 (.pointer (some ⟨w.heap.size + 1, 0, none⟩))] 135)).alloc (.cells #[.int .i64 v] 3)) (w.heap.size + 1 + 1 + 1) 3 #[.int .i64 v] := by have h := Whole.new (((w.alloc (.cells #[.int .u64 0, .int .u64 0, .int .u64 0, .int .u64 0, .int .u64 0, .int .u64 0] 24)).alloc (.cells #[.int .u64 0, .int .u64 0, .int .u64 0, .int .u64 0, .int .u64 0, .int .u64 0] 74)).alloc (.cells #[.iface 79 (.pointer (some ⟨w.heap.size + 1, 0, none⟩))] 135)) 3 #[.int .i64 v]; simp only [World.size_alloc] at h; exact h
  have hR4 : Rd ((((w.alloc (.cells #[.int .u64 0, .int .u64 0, .int .u64 0, .int .u64 0, .int .u64 0, .int .u64 0] 24)).alloc (.cells #[.int .u64 0, .int .u64 0, .int .u64 0, .int .u64 0, .int .u64 0, .int .u64 0] 74)).alloc (.cells #[.iface 79 (.pointer (some ⟨w.heap.size + 1, 0, none⟩))] 135)).alloc (.cells #[.int .i64 v] 3)) 1 A d.length (Lib.byteCells d) := (((hR.alloc _).alloc _).alloc _).alloc _
  generalize hG : ((((w.alloc (.cells #[.int .u64 0, .int .u64 0, .int .u64 0, .int .u64 0, .int .u64 0, .int .u64 0] 24)).alloc (.cells #[.int .u64 0, .int .u64 0, .int .u64 0, .int .u64 0, .int .u64 0, .int .u64 0] 74)).alloc (.cells #[.iface 79 (.pointer (some ⟨w.heap.size + 1, 0, none⟩))] 135)).alloc (.cells #[.int .i64 v] 3)) = W4 at k0 hsz hZ hI hP hN hR4
  have hgot := got_okC W4 A c d rest hR4 hc (fun i hi => by have := hA i hi; omega) 71 #[.pointer (some ⟨w.heap.size + 1 + 1, 0, none⟩), .pointer (some ⟨w.heap.size + 1 + 1 + 1, 0, none⟩)] fGotAware (RdrX (fun i => i = w.heap.size + 1) (W4.heap.size + 1 + 1) (W4.heap.size + 1) none) ?hS (fun w2 => Whole w2 (w.heap.size + 1) 74 #[.int .u64 p0, .int .u64 p1, .int .u64 p2, .int .u64 0, .int .u64 0, .int .u64 0]) ?hcall
  case hS =>
    rw [hsz]
    rintro (h | h | h | h)
    · omega
    · omega
    · omega
    · cases h
  case hcall =>
    intro w1 hR1 hK1
    have hI1 := hI.keeps hK1 (fun h => h)
    have hP1 := hP.keeps hK1 (fun h => h)
    have hN1 := hN.keeps hK1 (fun h => h)
    have b0 : w1.cell? ⟨w.heap.size + 1 + 1, 0, none⟩ = some (.iface 79 (.pointer (some ⟨w.heap.size + 1, 0, none⟩))) := hP1.cell 0
    have c0 : w1.cell? ⟨w.heap.size + 1 + 1 + 1, 0, none⟩ = some (.int .i64 v) := hN1.cell 0
    have bl := hP1.lt
    have cl := hN1.lt
    have hD : ob A ≠ some (w.heap.size + 1) := fun h => by have := hA _ h; omega
    have hde := hdec.out w1 _ _ _ (w.heap.size + 1) (ob A) none hI1 hD hR1
    clear hdec hI hP hN hZ hI1 hP1 hN1 hR1 hK1 hR4 hR k0 hG
    rw [hsz] at hde ⊢
    clear hsz
    show Calls Try.prog 71 #[.pointer (some ⟨w.heap.size + 1 + 1 + 1 + 1 + 1 + 1, 0, none⟩), .pointer (some ⟨w.heap.size + 1 + 1, 0, none⟩), .pointer (some ⟨w.heap.size + 1 + 1 + 1, 0, none⟩)] w1 _
    have HL := Lib.hid hL
    clear hL
    go_enter Try.func71, Try.ntmps71
    go_wp2_with fail
    refine hde.mono ?_
    have hL := HL.out
    rintro e w2 ⟨⟨m', hm', rfl, h1, h2⟩ | ⟨hm, _⟩, h3⟩
    · obtain rfl : m' = rest.length := by omega
      rw [List.take_length] at h1
      clear hm' hL
      go_wp2_with fail
      go_ret
      exact ⟨rfl, h1, h3, h2⟩
    · omega
  clear hdec hL hR hR4 hI hP hN
  generalize d.length = n at hgot hc ⊢
  generalize rest.length = m at hgot ⊢
  go_enter Try.func12, Try.ntmps12
  go_wp2_with (first | (go_at_call 42; go_in))
  try simp only [hG]
  refine hgot.mono ?_
  clear hgot
  rintro e w3 ⟨w2, rfl, hI2, hK2, hK3⟩
  have hZ2 := (hZ.keeps hK2 (by
    rintro (h | h | h | h)
    · omega
    · omega
    · omega
    · cases h)).keeps hK3 (by omega)
  have zl := hZ2.lt
  have z0 : w3.cell? ⟨w.heap.size, 0, none⟩ = some (.int .u64 0) := hZ2.cell 0
  have zf0 := hZ2.frozen 0
  have z1 : w3.cell? ⟨w.heap.size, 1, none⟩ = some (.int .u64 0) := hZ2.cell 1
  have zf1 := hZ2.frozen 1
  have z2 : w3.cell? ⟨w.heap.size, 2, none⟩ = some (.int .u64 0) := hZ2.cell 2
  have zf2 := hZ2.frozen 2
  have z3 : w3.cell? ⟨w.heap.size, 3, none⟩ = some (.int .u64 0) := hZ2.cell 3
  have zf3 := hZ2.frozen 3
  have z4 : w3.cell? ⟨w.heap.size, 4, none⟩ = some (.int .u64 0) := hZ2.cell 4
  have zf4 := hZ2.frozen 4
  have z5 : w3.cell? ⟨w.heap.size, 5, none⟩ = some (.int .u64 0) := hZ2.cell 5
  have zf5 := hZ2.frozen 5
  have hI3 := hI2.keeps hK3 (by omega)
  have q0 : w3.cell? ⟨w.heap.size + 1, 0, none⟩ = some (.int .u64 p0) := hI3.cell 0
  have q1 : w3.cell? ⟨w.heap.size + 1, 1, none⟩ = some (.int .u64 p1) := hI3.cell 1
  have q2 : w3.cell? ⟨w.heap.size + 1, 2, none⟩ = some (.int .u64 p2) := hI3.cell 2
  have q3 : w3.cell? ⟨w.heap.size + 1, 3, none⟩ = some (.int .u64 0) := hI3.cell 3
  have q4 : w3.cell? ⟨w.heap.size + 1, 4, none⟩ = some (.int .u64 0) := hI3.cell 4
  have q5 : w3.cell? ⟨w.heap.size + 1, 5, none⟩ = some (.int .u64 0) := hI3.cell 5
  have ql := hI3.lt
  go_wp2_with fail
  have hZ3 := ((((((hZ2.put 0 (.int .u64 p0)).put 1 (.int .u64 p1)).put 2 (.int .u64 p2)).put 3 (.int .u64 0)).put 4 (.int .u64 0)).put 5 (.int .u64 0))
  have hk3 := ((((((Keeps.refl (fun i => i = w.heap.size) w3).setCell (p := ⟨w.heap.size, 0, none⟩) (.inl rfl) (.int .u64 p0)).setCell (p := ⟨w.heap.size, 1, none⟩) (.inl rfl) (.int .u64 p1)).setCell (p := ⟨w.heap.size, 2, none⟩) (.inl rfl) (.int .u64 p2)).setCell (p := ⟨w.heap.size, 3, none⟩) (.inl rfl) (.int .u64 0)).setCell (p := ⟨w.heap.size, 4, none⟩) (.inl rfl) (.int .u64 0)).setCell (p := ⟨w.heap.size, 5, none⟩) (.inl rfl) (.int .u64 0)
  have hld := run_loadVar_row (P := Try.prog) _ w.heap.size 24 24 _ (0, 0) _ hZ3 Try.underlying24 rfl infoPg
  refine bodyPost_ret (results_cell3 rfl _ ⟨w.heap.size, 0, none⟩ _ _ rfl hld) rfl ⟨rfl, ?_⟩
  refine ((k0.trans hK2 ?_).trans hK3 ?_).trans hk3 ?_
  · rintro i hi (h | h | h | h)
    · omega
    · omega
    · omega
    · cases h
  · intro i hi h
    omega
  · intro i hi h
    omega

set_option maxRecDepth 100000 in
set_option maxHeartbeats 2000000 in
theorem pgGet3_err (w : World) (A : Option Addr) (c : Nat) (v : Int) (hv : v < 54420) (p0 p1 p2 p3 p4 p5 : Nat) (h0 : p0 < 18446744073709551616) (h1 : p1 < 18446744073709551616) (h2 : p2 < 18446744073709551616) (h3 : p3 < 18446744073709551616) (h4 : p4 < 18446744073709551616) (h5 : p5 < 18446744073709551616) (d : List UInt8) (m : Nat) (hm : m < (Lib.uvarint p0 ++ (Lib.uvarint p1 ++ (Lib.uvarint p2))).length) (hd : d = (Lib.uvarint p0 ++ (Lib.uvarint p1 ++ (Lib.uvarint p2))).take m) (hR : Rd w 1 A d.length (Lib.byteCells d)) (hc : d.length ≤ c) (hA : ∀ i, ob A = some i → i < w.heap.size) :
    Calls Try.prog 12 #[.slice A d.length c, .int .i64 v] w fun e w' => e = .returned (.tuple #[.agg #[.int .u64 0, .int .u64 0, .int .u64 0, .int .u64 0, .int .u64 0, .int .u64 0], .int .i64 0, .bool false]) ∧ Keeps (fun _ => False) w w' := by
  have hmf : ∀ (fn : Fn) (first cap : Array Value) (w : World), (Instr.makeFunc fn first cap).run Try.prog w = .ok (.func fn first cap) w := fun _ _ _ _ => rfl
  have hdec := Lib.hid (fun (w1 : World) (base rb bb g : Nat) (D R : Option Nat) (hI : Whole w1 g 74 #[.int .u64 0, .int .u64 0, .int .u64 0, .int .u64 0, .int .u64 0, .int .u64 0]) (hD : D ≠ some g) (hR : RdrOn w1 base rb bb D R d) => pgDecode3 w1 base rb bb g D R v hv p0 p1 p2 m h0 h1 h2 (Lib.uvarint p0 ++ (Lib.uvarint p1 ++ (Lib.uvarint p2 ++ []))) (Lib.uvarint p1 ++ (Lib.uvarint p2 ++ [])) (Lib.uvarint p2 ++ []) [] rfl rfl rfl hI hD (by have e : Lib.uvarint p0 ++ (Lib.uvarint p1 ++ (Lib.uvarint p2 ++ [])) = Lib.uvarint p0 ++ (Lib.uvarint p1 ++ (Lib.uvarint p2)) := (by simp); rw [e, ← hd]; exact hR))
  clear hv h0 h1 h2 h3 h4 h5
  have hL : m < (Lib.uvarint p0).length + (Lib.uvarint p1).length + (Lib.uvarint p2).length := by simp at hm; omega
  clear hd hm
  have k0 := ((((Keeps.refl (fun _ => False) w).alloc (.cells #[.int .u64 0, .int .u64 0, .int .u64 0, .int .u64 0, .int .u64 0, .int .u64 0] 24)).alloc (.cells #[.int .u64 0, .int .u64 0, .int .u64 0, .int .u64 0, .int .u64 0, .int .u64 0] 74)).alloc (.cells #[.iface 79 (.pointer (some ⟨w.heap.size + 1, 0, none⟩))] 135)).alloc (.cells #[.int .i64 v] 3)
  have hsz : (World.heap ((((w.alloc (.cells #[.int .u64 0, .int .u64 0, .int .u64 0, .int .u64 0, .int .u64 0, .int .u64 0] 24)).alloc (.cells #[.int .u64 0, .int .u64 0, .int .u64 0, .int .u64 0, .int .u64 0, .int .u64 0] 74)).alloc (.cells #[.iface 79 (.pointer (some ⟨w.heap.size + 1, 0, none⟩))] 135)).alloc (.cells #[.int .i64 v] 3))).size = w.heap.size + 1 + 1 + 1 + 1 := by simp only [World.size_alloc]
  have hZ : Whole ((((w.alloc (.cells #[.int .u64 0, .int .u64 0, .int .u64 0, .int .u64 0, .int .u64 0, .int .u64 0] 24)).alloc (.cells #[.int .u64 0, .int .u64 0, .int .u64 0, .int .u64 0, .int .u64 0, .int .u64 0] 74)).alloc (.cells #[.iface 79 (.pointer (some ⟨w.heap.size + 1, 0, none⟩))] 135)).alloc (.cells #[.int .i64 v] 3)) w.heap.size 24 #[.int .u64 0, .int .u64 0, .int .u64 0, .int .u64 0, .int .u64 0, .int .u64 0] := (((Whole.new w 24 #[.int .u64 0, .int .u64 0, .int .u64 0, .int .u64 0, .int .u64 0, .int .u64 0]).alloc _).alloc _).alloc _
  have hI : Whole ((((w.alloc (.cells #[.int .u64 0, .int .u64 0, .int .u64 0, .int .u64 0, .int .u64 0, .int .u64 0] 24)).alloc (.cells #[.int .u64 0, .int .u64 0, .int .u64 0, .int .u64 0, .int .u64 0, .int .u64 0] 74)).alloc (.cells #[.iface 79 (.pointer (some ⟨w.heap.size + 1, 0, none⟩))] 135)).alloc (.cells #[.int .i64 v] 3)) (w.heap.size + 1) 74 #[.int .u64 0, .int .u64 0, .int .u64 0, .int .u64 0, .int .u64 0, .int .u64 0] := by have h := ((Whole.new (w.alloc (.cells #[.int .u64 0, .int .u64 0, .int .u64 0, .int .u64 0, .int .u64 0, .int .u64 0] 24)) 74 #[.int .u64 0, .int .u64 0, .int .u64 0, .int .u64 0, .int .u64 0, .int .u64 0]).alloc (.cells #[.iface 79 (.pointer (some ⟨w.heap.size + 1, 0, none⟩))] 135)).alloc (.cells #[.int .i64 v] 3); simp only [World.size_alloc] at h; exact h
  have hP : Whole ((((w.alloc (.cells #[.int .u64 0, .int .u64 0, .int .u64 0, .int .u64 0, .int .u64 0, .int .u64 0] 24)).alloc (.cells #[.int .u64 0, .int .u64 0, .int .u64 0, .int .u64 0, .int .u64 0, .int .u64 0] 74)).alloc (.cells #[.iface 79 (.pointer (some ⟨w.heap.size + 1, 0, none⟩))] 135)).alloc (.cells #[.int .i64 v] 3)) (w.heap.size + 1 + 1) 135 #[.iface 79 (.pointer (some ⟨w.heap.size + 1, 0, none⟩))] := by have h := (Whole.new ((w.alloc (.cells #[.int .u64 0, .int .u64 0, .int .u64 0, .int .u64 0, .int .u64 0, .int .u64 0] 24)).alloc (.cells #[.int .u64 0, .int .u64 0, .int .u64 0, .int .u64 0, .int .u64 0, .int .u64 0] 74)) 135 #[.iface 79 (.pointer (some ⟨w.heap.size + 1, 0, none⟩))]).alloc (.cells #[.int .i64 v] 3); simp only [World.size_alloc] at h; exact h
  have hN : Whole ((((w.alloc (.cells #[.int .u64 0, .int .u64 0, .int .u64 0, .int .u64 0, .int .u64 0, .int .u64 0] 24)).alloc (.cells #[.int .u64 0, .int .u64 0, .int .u64 0, .int .u64 0, .int .u64 0, .int .u64 0] 74)).alloc (.cells #[.iface 79 (.pointer (some ⟨w.heap.size + 1, 0, none⟩))] 135)).alloc (.cells #[.int .i64 v] 3)) (w.heap.size + 1 + 1 + 1) 3 #[.int .i64 v] := by have h := Whole.new (((w.alloc (.cells #[.int .u64 0, .int .u64 0, .int .u64 0, .int .u64 0, .int .u64 0, .int .u64 0] 24)).alloc (.cells #[.int .u64 0, .int .u64 0, .int .u64 0, .int .u64 0, .int .u64 0, .int .u64 0] 74)).alloc (.cells #[.iface 79 (.pointer (some ⟨w.heap.size + 1, 0, none⟩))] 135)) 3 #[.int .i64 v]; simp only [World.size_alloc] at h; exact h
  have hR4 : Rd ((((w.alloc (.cells #[.int .u64 0, .int .u64 0, .int .u64 0, .int .u64 0, .int .u64 0, .int .u64 0] 24)).alloc (.cells #[.int .u64 0, .int .u64 0, .int .u64 0, .int .u64 0, .int .u64 0, .int .u64 0] 74)).alloc (.cells #[.iface 79 (.pointer (some ⟨w.heap.size + 1, 0, none⟩))] 135)).alloc (.cells #[.int .i64 v] 3)) 1 A d.length (Lib.byteCells d) := (((hR.alloc _).alloc _).alloc _).alloc _
  generalize hG : ((((w.alloc (.cells #[.int .u64 0, .int .u64 0, .int .u64 0, .int .u64 0, .int .u64 0, .int .u64 0] 24)).alloc (.cells #[.int .u64 0, .int .u64 0, .int .u64 0, .int .u64 0, .int .u64 0, .int .u64 0] 74)).alloc (.cells #[.iface 79 (.pointer (some ⟨w.heap.size + 1, 0, none⟩))] 135)).alloc (.cells #[.int .i64 v] 3)) = W4 at k0 hsz hZ hI hP hN hR4
  have hgot := got_errC W4 A c d  hR4 hc (fun i hi => by have := hA i hi; omega) 71 #[.pointer (some ⟨w.heap.size + 1 + 1, 0, none⟩), .pointer (some ⟨w.heap.size + 1 + 1 + 1, 0, none⟩)] fGotAware (RdrX (fun i => i = w.heap.size + 1) (W4.heap.size + 1 + 1) (W4.heap.size + 1) none) ?hS (fun w2 => True) ?hcall
  case hS =>
    rw [hsz]
    rintro (h | h | h | h)
    · omega
    · omega
    · omega
    · cases h
  case hcall =>
    intro w1 hR1 hK1
    have hI1 := hI.keeps hK1 (fun h => h)
    have hP1 := hP.keeps hK1 (fun h => h)
    have hN1 := hN.keeps hK1 (fun h => h)
    have b0 : w1.cell? ⟨w.heap.size + 1 + 1, 0, none⟩ = some (.iface 79 (.pointer (some ⟨w.heap.size + 1, 0, none⟩))) := hP1.cell 0
    have c0 : w1.cell? ⟨w.heap.size + 1 + 1 + 1, 0, none⟩ = some (.int .i64 v) := hN1.cell 0
    have bl := hP1.lt
    have cl := hN1.lt
    have hD : ob A ≠ some (w.heap.size + 1) := fun h => by have := hA _ h; omega
    have hde := hdec.out w1 _ _ _ (w.heap.size + 1) (ob A) none hI1 hD hR1
    clear hdec hI hP hN hZ hI1 hP1 hN1 hR1 hK1 hR4 hR k0 hG
    rw [hsz] at hde ⊢
    clear hsz
    show Calls Try.prog 71 #[.pointer (some ⟨w.heap.size + 1 + 1 + 1 + 1 + 1 + 1, 0, none⟩), .pointer (some ⟨w.heap.size + 1 + 1, 0, none⟩), .pointer (some ⟨w.heap.size + 1 + 1 + 1, 0, none⟩)] w1 _
    have HL := Lib.hid hL
    clear hL
    go_enter Try.func71, Try.ntmps71
    go_wp2_with fail
    refine hde.mono ?_
    have hL := HL.out
    rintro e w2 ⟨⟨m', hm', _⟩ | ⟨_, z, rfl, ⟨a, rfl⟩⟩, h3⟩
    · omega
    · clear hL
      go_wp2_with fail
      go_ret
      exact ⟨⟨_, rfl, ⟨_, rfl⟩⟩, h3, trivial⟩
  clear hdec hL hR hR4 hI hP hN
  generalize d.length = n at hgot hc ⊢
  go_enter Try.func12, Try.ntmps12
  go_wp2_with (first | (go_at_call 42; go_in))
  try simp only [hG]
  refine hgot.mono ?_
  clear hgot
  rintro e w3 ⟨w2, rfl, hI2, hK2, hK3⟩
  have hZ2 := (hZ.keeps hK2 (by
    rintro (h | h | h | h)
    · omega
    · omega
    · omega
    · cases h)).keeps hK3 (by omega)
  have zl := hZ2.lt
  have z0 : w3.cell? ⟨w.heap.size, 0, none⟩ = some (.int .u64 0) := hZ2.cell 0
  have zf0 := hZ2.frozen 0
  have z1 : w3.cell? ⟨w.heap.size, 1, none⟩ = some (.int .u64 0) := hZ2.cell 1
  have zf1 := hZ2.frozen 1
  have z2 : w3.cell? ⟨w.heap.size, 2, none⟩ = some (.int .u64 0) := hZ2.cell 2
  have zf2 := hZ2.frozen 2
  have z3 : w3.cell? ⟨w.heap.size, 3, none⟩ = some (.int .u64 0) := hZ2.cell 3
  have zf3 := hZ2.frozen 3
  have z4 : w3.cell? ⟨w.heap.size, 4, none⟩ = some (.int .u64 0) := hZ2.cell 4
  have zf4 := hZ2.frozen 4
  have z5 : w3.cell? ⟨w.heap.size, 5, none⟩ = some (.int .u64 0) := hZ2.cell 5
  have zf5 := hZ2.frozen 5
  go_wp2_with fail
  have hZ3 := ((((((hZ2.put 0 (.int .u64 0)).put 1 (.int .u64 0)).put 2 (.int .u64 0)).put 3 (.int .u64 0)).put 4 (.int .u64 0)).put 5 (.int .u64 0))
  have hk3 := ((((((Keeps.refl (fun i => i = w.heap.size) w3).setCell (p := ⟨w.heap.size, 0, none⟩) (.inl rfl) (.int .u64 0)).setCell (p := ⟨w.heap.size, 1, none⟩) (.inl rfl) (.int .u64 0)).setCell (p := ⟨w.heap.size, 2, none⟩) (.inl rfl) (.int .u64 0)).setCell (p := ⟨w.heap.size, 3, none⟩) (.inl rfl) (.int .u64 0)).setCell (p := ⟨w.heap.size, 4, none⟩) (.inl rfl) (.int .u64 0)).setCell (p := ⟨w.heap.size, 5, none⟩) (.inl rfl) (.int .u64 0)
  have hld := run_loadVar_row (P := Try.prog) _ w.heap.size 24 24 _ (0, 0) _ hZ3 Try.underlying24 rfl infoPg
  refine bodyPost_ret (results_cell3 rfl _ ⟨w.heap.size, 0, none⟩ _ _ rfl hld) rfl ⟨rfl, ?_⟩
  refine ((k0.trans hK2 ?_).trans hK3 ?_).trans hk3 ?_
  · rintro i hi (h | h | h | h)
    · omega
    · omega
    · omega
    · cases h
  · intro i hi h
    omega
  · intro i hi h
    omega

set_option maxRecDepth 100000 in
set_option maxHeartbeats 2000000 in
theorem pgGet5_ok (w : World) (A : Option Addr) (c : Nat) (v : Int) (hv : 54420 ≤ v) (hv2 : v < 54460) (p0 p1 p2 p3 p4 p5 : Nat) (h0 : p0 < 18446744073709551616) (h1 : p1 < 18446744073709551616) (h2 : p2 < 18446744073709551616) (h3 : p3 < 18446744073709551616) (h4 : p4 < 18446744073709551616) (h5 : p5 < 18446744073709551616) (rest d : List UInt8) (hd : d = (Lib.uvarint p0 ++ (Lib.uvarint p1 ++ (Lib.uvarint p2 ++ (Lib.uvarint p3 ++ (Lib.uvarint p4))))) ++ rest) (hR : Rd w 1 A d.length (Lib.byteCells d)) (hc : d.length ≤ c) (hA : ∀ i, ob A = some i → i < w.heap.size) :
    Calls Try.prog 12 #[.slice A d.length c, .int .i64 v] w fun e w' => e = .returned (.tuple #[.agg #[.int .u64 p0, .int .u64 p1, .int .u64 p2, .int .u64 p3, .int .u64 p4, .int .u64 0], .int .i64 rest.length, .bool true]) ∧ Keeps (fun _ => False) w w' := by
  have hmf : ∀ (fn : Fn) (first cap : Array Value) (w : World), (Instr.makeFunc fn first cap).run Try.prog w = .ok (.func fn first cap) w := fun _ _ _ _ => rfl
  have hdec := Lib.hid (fun (w1 : World) (base rb bb g : Nat) (D R : Option Nat) (hI : Whole w1 g 74 #[.int .u64 0, .int .u64 0, .int .u64 0, .int .u64 0, .int .u64 0, .int .u64 0]) (hD : D ≠ some g) (hR : RdrOn w1 base rb bb D R d) => pgDecode5 w1 base rb bb g D R v hv hv2 p0 p1 p2 p3 p4 d.length h0 h1 h2 h3 h4 (Lib.uvarint p0 ++ (Lib.uvarint p1 ++ (Lib.uvarint p2 ++ (Lib.uvarint p3 ++ (Lib.uvarint p4 ++ rest))))) (Lib.uvarint p1 ++ (Lib.uvarint p2 ++ (Lib.uvarint p3 ++ (Lib.uvarint p4 ++ rest)))) (Lib.uvarint p2 ++ (Lib.uvarint p3 ++ (Lib.uvarint p4 ++ rest))) (Lib.uvarint p3 ++ (Lib.uvarint p4 ++ rest)) (Lib.uvarint p4 ++ rest) rest rfl rfl rfl rfl rfl hI hD (by rw [List.take_of_length_le (by rw [hd]; simp)]; have e : d = Lib.uvarint p0 ++ (Lib.uvarint p1 ++ (Lib.uvarint p2 ++ (Lib.uvarint p3 ++ (Lib.uvarint p4 ++ rest)))) := (by rw [hd]; simp); rw [← e]; exact hR))
  clear hv hv2 h0 h1 h2 h3 h4 h5
  have hL : d.length = (Lib.uvarint p0).length + (Lib.uvarint p1).length + (Lib.uvarint p2).length + (Lib.uvarint p3).length + (Lib.uvarint p4).length + rest.length := by rw [hd]; simp; omega
  clear hd 
  have k0 := ((((Keeps.refl (fun _ => False) w).alloc (.cells #[.int .u64 0, .int .u64 0, .int .u64 0, .int .u64 0, .int .u64 0, .int .u64 0] 24)).alloc (.cells #[.int .u64 0, .int .u64 0, .int .u64 0, .int .u64 0, .int .u64 0, .int .u64 0] 74)).alloc (.cells #[.iface 79 (.pointer (some ⟨w.heap.size + 1, 0, none⟩))] 135)).alloc (.cells #[.int .i64 v] 3)
  have hsz : (World.heap ((((w.alloc (.cells #[.int .u64 0, .int .u64 0, .int .u64 0, .int .u64 0, .int .u64 0, .int .u64 0] 24)).alloc (.cells #[.int .u64 0, .int .u64 0, .int .u64 0, .int .u64 0, .int .u64 0, .int .u64 0] 74)).alloc (.cells #[.iface 79 (.pointer (some ⟨w.heap.size + 1, 0, none⟩))] 135)).alloc (.cells #[.int .i64 v] 3))).size = w.heap.size + 1 + 1 + 1 + 1 := by simp only [World.size_alloc]
  have hZ : Whole ((((w.alloc (.cells #[.int .u64 0, .int .u64 0, .int .u64 0, .int .u64 0, .int .u64 0, .int .u64 0] 24)).alloc (.cells #[.int .u64 0, .int .u64 0, .int .u64 0, .int .u64 0, .int .u64 0, .int .u64 0] 74)).alloc (.cells #[.iface 79 (.pointer (some ⟨w.heap.size + 1, 0, none⟩))] 135)).alloc (.cells #[.int .i64 v] 3)) w.heap.size 24 #[.int .u64 0, .int .u64 0, .int .u64 0, .int .u64 0, .int .u64 0, .int .u64 0] := (((Whole.new w 24 #[.int .u64 0, .int .u64 0, .int .u64 0, .int .u64 0, .int .u64 0, .int .u64 0]).alloc _).alloc _).alloc _
  have hI : Whole ((((w.alloc (.cells #[.int .u64 0, .int .u64 0, .int .u64 0, .int .u64 0, .int .u64 0, .int .u64 0] 24)).alloc (.cells #[.int .u64 0, .int .u64 0, .int .u64 0, .int .u64 0, .int .u64 0, .int .u64 0] 74)).alloc (.cells #[.iface 79 (.pointer (some ⟨w.heap.size + 1, 0, none⟩))] 135)).alloc (.cells #[.int .i64 v] 3)) (w.heap.size + 1) 74 #[.int .u64 0, .int .u64 0, .int .u64 0, .int .u64 0, .int .u64 0, .int .u64 0] := by have h := ((Whole.new (w.alloc (.cells #[.int .u64 0, .int .u64 0, .int .u64 0, .int .u64 0, .int .u64 0, .int .u64 0] 24)) 74 #[.int .u64 0, .int .u64 0, .int .u64 0, .int .u64 0, .int .u64 0, .int .u64 0]).alloc (.cells #[.iface 79 (.pointer (some ⟨w.heap.size + 1, 0, none⟩))] 135)).alloc (.cells #[.int .i64 v] 3); simp only [World.size_alloc] at h; exact h
  have hP : Whole ((((w.alloc (.cells #[.int .u64 0, .int .u64 0, .int .u64 0, .int .u64 0, .int .u64 0, .int .u64 0] 24)).alloc (.cells #[.int .u64 0, .int .u64 0, .int .u64 0, .int .u64 0, .int .u64 0, .int .u64 0] 74)).alloc (.cells #[.iface 79 (.pointer (some ⟨w.heap.size + 1, 0, none⟩))] 135)).alloc (.cells #[.int .i64 v] 3)) (w.heap.size + 1 + 1) 135 #[.iface 79 (.pointer (some ⟨w.heap.size + 1, 0, none⟩))] := by have h := (Whole.new ((w.alloc (.cells #[.int .u64 0, .int .u64 0, .int .u64 0, .int .u64 0, .int .u64 0, .int .u64 0] 24)).alloc (.cells #[.int .u64 0, .int .u64 0, .int .u64 0, .int .u64 0, .int .u64 0, .int .u64 0] 74)) 135 #[.iface 79 (.pointer (some ⟨w.heap.size + 1, 0, none⟩))]).alloc (.cells #[.int .i64 v] 3); simp only [World.size_alloc] at h; exact h
  have hN : Whole ((((w.alloc (.cells #[.int .u64 0, .int .u64 0, .int .u64 0, .int .u64 0, .int .u64 0, .int .u64 0] 24)).alloc (.cells #[.int .u64 0, .int .u64 0, .int .u64 0, .int .u64 0, .int .u64 0, .int .u64 0] 74)).alloc (.cells #[.iface 79 (.pointer (some ⟨w.heap.size + 1, 0, none⟩))] 135)).alloc (.cells #[.int .i64 v] 3)) (w.heap.size + 1 + 1 + 1) 3 #[.int .i64 v] := by have h := Whole.new (((w.alloc (.cells #[.int .u64 0, .int .u64 0, .int .u64 0, .int .u64 0, .int .u64 0, .int .u64 0] 24)).alloc (.cells #[.int .u64 0, .int .u64 0, .int .u64 0, .int .u64 0, .int .u64 0, .int .u64 0] 74)).alloc (.cells #[.iface 79 (.pointer (some ⟨w.heap.size + 1, 0, none⟩))] 135)) 3 #[.int .i64 v]; simp only [World.size_alloc] at h; exact h
  have hR4 : Rd ((((w.alloc (.cells #[.int .u64 0, .int .u64 0, .int .u64 0, .int .u64 0, .int .u64 0, .int .u64 0] 24)).alloc (.cells #[.int .u64 0, .int .u64 0, .int .u64 0, .int .u64 0, .int .u64 0, .int .u64 0] 74)).alloc (.cells #[.iface 79 (.pointer (some ⟨w.heap.size + 1, 0, none⟩))] 135)).alloc (.cells #[.int .i64 v] 3)) 1 A d.length (Lib.byteCells d) := (((hR.alloc _).alloc _).alloc _).alloc _
  generalize hG : ((((w.alloc (.cells #[.int .u64 0, .int .u64 0, .int .u64 0, .int .u64 0, .int .u64 0, .int .u64 0] 24)).alloc (.cells #[.int .u64 0, .int .u64 0, .int .u64 0, .int .u64 0, .int .u64 0, .int .u64 0] 74)).alloc (.cells #[.iface 79 (.pointer (some ⟨w.heap.size + 1, 0, none⟩))] 135)).alloc (.cells #[.int .i64 v] 3)) = W4 at k0 hsz hZ hI hP hN hR4
  have hgot := got_okC W4 A c d rest hR4 hc (fun i hi => by have := hA i hi; omega) 71 #[.pointer (some ⟨w.heap.size + 1 + 1, 0, none⟩), .pointer (some ⟨w.heap.size + 1 + 1 + 1, 0, none⟩)] fGotAware (RdrX (fun i => i = w.heap.size + 1) (W4.heap.size + 1 + 1) (W4.heap.size + 1) none) ?hS (fun w2 => Whole w2 (w.heap.size + 1) 74 #[.int .u64 p0, .int .u64 p1, .int .u64 p2, .int .u64 p3, .int .u64 p4, .int .u64 0]) ?hcall
  case hS =>
    rw [hsz]
    rintro (h | h | h | h)
    · omega
    · omega
    · omega
    · cases h
  case hcall =>
    intro w1 hR1 hK1
    have hI1 := hI.keeps hK1 (fun h => h)
    have hP1 := hP.keeps hK1 (fun h => h)
    have hN1 := hN.keeps hK1 (fun h => h)
    have b0 : w1.cell? ⟨w.heap.size + 1 + 1, 0, none⟩ = some (.iface 79 (.pointer (some ⟨w.heap.size + 1, 0, none⟩))) := hP1.cell 0
    have c0 : w1.cell? ⟨w.heap.size + 1 + 1 + 1, 0, none⟩ = some (.int .i64 v) := hN1.cell 0
    have bl := hP1.lt
    have cl := hN1.lt
    have hD : ob A ≠ some (w.heap.size + 1) := fun h => by have := hA _ h; omega
    have hde := hdec.out w1 _ _ _ (w.heap.size + 1) (ob A) none hI1 hD hR1
    clear hdec hI hP hN hZ hI1 hP1 hN1 hR1 hK1 hR4 hR k0 hG
    rw [hsz] at hde ⊢
    clear hsz
    show Calls Try.prog 71 #[.pointer (some ⟨w.heap.size + 1 + 1 + 1 + 1 + 1 + 1, 0, none⟩), .pointer (some ⟨w.heap.size + 1 + 1, 0, none⟩), .pointer (some ⟨w.heap.size + 1 + 1 + 1, 0, none⟩)] w1 _
    have HL := Lib.hid hL
    clear hL
    go_enter Try.func71, Try.ntmps71
    go_wp2_with fail
    refine hde.mono ?_
    have hL := HL.out
    rintro e w2 ⟨⟨m', hm', rfl, h1, h2⟩ | ⟨hm, _⟩, h3⟩
    · obtain rfl : m' = rest.length := by omega
      rw [List.take_length] at h1
      clear hm' hL
      go_wp2_with fail
      go_ret
      exact ⟨rfl, h1, h3, h2⟩
    · omega
  clear hdec hL hR hR4 hI hP hN
  generalize d.length = n at hgot hc ⊢
  generalize rest.length = m at hgot ⊢
  go_enter Try.func12, Try.ntmps12
  go_wp2_with (first | (go_at_call 42; go_in))
  try simp only [hG]
  refine hgot.mono ?_
  clear hgot
  rintro e w3 ⟨w2, rfl, hI2, hK2, hK3⟩
  have hZ2 := (hZ.keeps hK2 (by
    rintro (h | h | h | h)
    · omega
    · omega
    · omega
    · cases h)).keeps hK3 (by omega)
  have zl := hZ2.lt
  have z0 : w3.cell? ⟨w.heap.size, 0, none⟩ = some (.int .u64 0) := hZ2.cell 0
  have zf0 := hZ2.frozen 0
  have z1 : w3.cell? ⟨w.heap.size, 1, none⟩ = some (.int .u64 0) := hZ2.cell 1
  have zf1 := hZ2.frozen 1
  have z2 : w3.cell? ⟨w.heap.size, 2, none⟩ = some (.int .u64 0) := hZ2.cell 2
  have zf2 := hZ2.frozen 2
  have z3 : w3.cell? ⟨w.heap.size, 3, none⟩ = some (.int .u64 0) := hZ2.cell 3
  have zf3 := hZ2.frozen 3
  have z4 : w3.cell? ⟨w.heap.size, 4, none⟩ = some (.int .u64 0) := hZ2.cell 4
  have zf4 := hZ2.frozen 4
  have z5 : w3.cell? ⟨w.heap.size, 5, none⟩ = some (.int .u64 0) := hZ2.cell 5
  have zf5 := hZ2.frozen 5
  have hI3 := hI2.keeps hK3 (by omega)
  have q0 : w3.cell? ⟨w.heap.size + 1, 0, none⟩ = some (.int .u64 p0) := hI3.cell 0
  have q1 : w3.cell? ⟨w.heap.size + 1, 1, none⟩ = some (.int .u64 p1) := hI3.cell 1
  have q2 : w3.cell? ⟨w.heap.size + 1, 2, none⟩ = some (.int .u64 p2) := hI3.cell 2
  have q3 : w3.cell? ⟨w.heap.size + 1, 3, none⟩ = some (.int .u64 p3) := hI3.cell 3
  have q4 : w3.cell? ⟨w.heap.size + 1, 4, none⟩ = some (.int .u64 p4) := hI3.cell 4
  have q5 : w3.cell? ⟨w.heap.size + 1, 5, none⟩ = some (.int .u64 0) := hI3.cell 5
  have ql := hI3.lt
  go_wp2_with fail
  have hZ3 := ((((((hZ2.put 0 (.int .u64 p0)).put 1 (.int .u64 p1)).put 2 (.int .u64 p2)).put 3 (.int .u64 p3)).put 4 (.int .u64 p4)).put 5 (.int .u64 0))
  have hk3 := ((((((Keeps.refl (fun i => i = w.heap.size) w3).setCell (p := ⟨w.heap.size, 0, none⟩) (.inl rfl) (.int .u64 p0)).setCell (p := ⟨w.heap.size, 1, none⟩) (.inl rfl) (.int .u64 p1)).setCell (p := ⟨w.heap.size, 2, none⟩) (.inl rfl) (.int .u64 p2)).setCell (p := ⟨w.heap.size, 3, none⟩) (.inl rfl) (.int .u64 p3)).setCell (p := ⟨w.heap.size, 4, none⟩) (.inl rfl) (.int .u64 p4)).setCell (p := ⟨w.heap.size, 5, none⟩) (.inl rfl) (.int .u64 0)
  have hld := run_loadVar_row (P := Try.prog) _ w.heap.size 24 24 _ (0, 0) _ hZ3 Try.underlying24 rfl infoPg
  refine bodyPost_ret (results_cell3 rfl _ ⟨w.heap.size, 0, none⟩ _ _ rfl hld) rfl ⟨rfl, ?_⟩
  refine ((k0.trans hK2 ?_).trans hK3 ?_).trans hk3 ?_
  · rintro i hi (h | h | h | h)
    · omega
    · omega
    · omega
    · cases h
  · intro i hi h
    omega
  · intro i hi h
    omega

set_option maxRecDepth 100000 in
set_option maxHeartbeats 2000000 in
theorem pgGet5_err (w : World) (A : Option Addr) (c : Nat) (v : Int) (hv : 54420 ≤ v) (hv2 : v < 54460) (p0 p1 p2 p3 p4 p5 : Nat) (h0 : p0 < 18446744073709551616) (h1 : p1 < 18446744073709551616) (h2 : p2 < 18446744073709551616) (h3 : p3 < 18446744073709551616) (h4 : p4 < 18446744073709551616) (h5 : p5 < 18446744073709551616) (d : List UInt8) (m : Nat) (hm : m < (Lib.uvarint p0 ++ (Lib.uvarint p1 ++ (Lib.uvarint p2 ++ (Lib.uvarint p3 ++ (Lib.uvarint p4))))).length) (hd : d = (Lib.uvarint p0 ++ (Lib.uvarint p1 ++ (Lib.uvarint p2 ++ (Lib.uvarint p3 ++ (Lib.uvarint p4))))).take m) (hR : Rd w 1 A d.length (Lib.byteCells d)) (hc : d.length ≤ c) (hA : ∀ i, ob A = some i → i < w.heap.size) :
    Calls Try.prog 12 #[.slice A d.length c, .int .i64 v] w fun e w' => e = .returned (.tuple #[.agg #[.int .u64 0, .int .u64 0, .int .u64 0, .int .u64 0, .int .u64 0, .int .u64 0], .int .i64 0, .bool false]) ∧ Keeps (fun _ => False) w w' := by
  have hmf : ∀ (fn : Fn) (first cap : Array Value) (w : World), (Instr.makeFunc fn first cap).run Try.prog w = .ok (.func fn first cap) w := fun _ _ _ _ => rfl
  have hdec := Lib.hid (fun (w1 : World) (base rb bb g : Nat) (D R : Option Nat) (hI : Whole w1 g 74 #[.int .u64 0, .int .u64 0, .int .u64 0, .int .u64 0, .int .u64 0, .int .u64 0]) (hD : D ≠ some g) (hR : RdrOn w1 base rb bb D R d) => pgDecode5 w1 base rb bb g D R v hv hv2 p0 p1 p2 p3 p4 m h0 h1 h2 h3 h4 (Lib.uvarint p0 ++ (Lib.uvarint p1 ++ (Lib.uvarint p2 ++ (Lib.uvarint p3 ++ (Lib.uvarint p4 ++ []))))) (Lib.uvarint p1 ++ (Lib.uvarint p2 ++ (Lib.uvarint p3 ++ (Lib.uvarint p4 ++ [])))) (Lib.uvarint p2 ++ (Lib.uvarint p3 ++ (Lib.uvarint p4 ++ []))) (Lib.uvarint p3 ++ (Lib.uvarint p4 ++ [])) (Lib.uvarint p4 ++ []) [] rfl rfl rfl rfl rfl hI hD (by have e : Lib.uvarint p0 ++ (Lib.uvarint p1 ++ (Lib.uvarint p2 ++ (Lib.uvarint p3 ++ (Lib.uvarint p4 ++ [])))) = Lib.uvarint p0 ++ (Lib.uvarint p1 ++ (Lib.uvarint p2 ++ (Lib.uvarint p3 ++ (Lib.uvarint p4)))) := (by simp); rw [e, ← hd]; exact hR))
  clear hv hv2 h0 h1 h2 h3 h4 h5
  have hL : m < (Lib.uvarint p0).length + (Lib.uvarint p1).length + (Lib.uvarint p2).length + (Lib.uvarint p3).length + (Lib.uvarint p4).length := by simp at hm; omega
  clear hd hm
  have k0 := ((((Keeps.refl (fun _ => False) w).alloc (.cells #[.int .u64 0, .int .u64 0, .int .u64 0, .int .u64 0, .int .u64 0, .int .u64 0] 24)).alloc (.cells #[.int .u64 0, .int .u64 0, .int .u64 0, .int .u64 0, .int .u64 0, .int .u64 0] 74)).alloc (.cells #[.iface 79 (.pointer (some ⟨w.heap.size + 1, 0, none⟩))] 135)).alloc (.cells #[.int .i64 v] 3)
  have hsz : (World.heap ((((w.alloc (.cells #[.int .u64 0, .int .u64 0, .int .u64 0, .int .u64 0, .int .u64 0, .int .u64 0] 24)).alloc (.cells #[.int .u64 0, .int .u64 0, .int .u64 0, .int .u64 0, .int .u64 0, .int .u64 0] 74)).alloc (.cells #[.iface 79 (.pointer (some ⟨w.heap.size + 1, 0, none⟩))] 135)).alloc (.cells #[.int .i64 v] 3))).size = w.heap.size + 1 + 1 + 1 + 1 := by simp only [World.size_alloc]
  have hZ : Whole ((((w.alloc (.cells #[.int .u64 0, .int .u64 0, .int .u64 0, .int .u64 0, .int .u64 0, .int .u64 0] 24)).alloc (.cells #[.int .u64 0, .int .u64 0, .int .u64 0, .int .u64 0, .int .u64 0, .int .u64 0] 74)).alloc (.cells #[.iface 79 (.pointer (some ⟨w.heap.size + 1, 0, none⟩))] 135)).alloc (.cells #[.int .i64 v] 3)) w.heap.size 24 #[.int .u64 0, .int .u64 0, .int .u64 0, .int .u64 0, .int .u64 0, .int .u64 0] := (((Whole.new w 24 #[.int .u64 0, .int .u64 0, .int .u64 0, .int .u64 0, .int .u64 0, .int .u64 0]).alloc _).alloc _).alloc _
  have hI : Whole ((((w.alloc (.cells #[.int .u64 0, .int .u64 0, .int .u64 0, .int .u64 0, .int .u64 0, .int .u64 0] 24)).alloc (.cells #[.int .u64 0, .int .u64 0, .int .u64 0, .int .u64 0, .int .u64 0, .int .u64 0] 74)).alloc (.cells #[.iface 79 (.pointer (some ⟨w.heap.size + 1, 0, none⟩))] 135)).alloc (.cells #[.int .i64 v] 3)) (w.heap.size + 1) 74 #[.int .u64 0, .int .u64 0, .int .u64 0, .int .u64 0, .int .u64 0, .int .u64 0] := by have h := ((Whole.new (w.alloc (.cells #[.int .u64 0, .int .u64 0, .int .u64 0, .int .u64 0, .int .u64 0, .int .u64 0] 24)) 74 #[.int .u64 0, .int .u64 0, .int .u64 0, .int .u64 0, .int .u64 0, .int .u64 0]).alloc (.cells #[.iface 79 (.pointer (some ⟨w.heap.size + 1, 0, none⟩))] 135)).alloc (.cells #[.int .i64 v] 3); simp only [World.size_alloc] at h; exact h
  have hP : Whole ((((w.alloc (.cells #[.int .u64 0, .int .u64 0, .int .u64 0, .int .u64 0, .int .u64 0, .int .u64 0] 24)).alloc (.cells #[.int .u64 0, .int .u64 0, .int .u64 0, .int .u64 0, .int .u64 0, .int .u64 0] 74)).alloc (.cells #[.iface 79 (.pointer (some ⟨w.heap.size + 1, 0, none⟩))] 135)).alloc (.cells #[.int .i64 v] 3)) (w.heap.size + 1 + 1) 135 #[.iface 79 (.pointer (some ⟨w.heap.size + 1, 0, none⟩))] := by have h := (Whole.new ((w.alloc (.cells #[.int .u64 0, .int .u64 0, .int .u64 0, .int .u64 0, .int .u64 0, .int .u64 0] 24)).alloc (.cells #[.int .u64 0, .int .u64 0, .int .u64 0, .int .u64 0, .int .u64 0, .int .u64 0] 74)) 135 #[.iface 79 (.pointer (some ⟨w.heap.size + 1, 0, none⟩))]).alloc (.cells #[.int .i64 v] 3); simp only [World.size_alloc] at h; exact h
  have hN : Whole ((((w.alloc (.cells #[.int .u64 0, .int .u64 0, .int .u64 0, .int .u64 0, .int .u64 0, .int .u64 0] 24)).alloc (.cells #[.int .u64 0, .int .u64 0, .int .u64 0, .int .u64 0, .int .u64 0, .int .u64 0] 74)).alloc (.cells #[.iface 79 (.pointer (some ⟨w.heap.size + 1, 0, none⟩))] 135)).alloc (.cells #[.int .i64 v] 3)) (w.heap.size + 1 + 1 + 1) 3 #[.int .i64 v] := by have h := Whole.new (((w.alloc (.cells #[.int .u64 0, .int .u64 0, .int .u64 0, .int .u64 0, .int .u64 0, .int .u64 0] 24)).alloc (.cells #[.int .u64 0, .int .u64 0, .int .u64 0, .int .u64 0, .int .u64 0, .int .u64 0] 74)).alloc (.cells #[.iface 79 (.pointer (some ⟨w.heap.size + 1, 0, none⟩))] 135)) 3 #[.int .i64 v]; simp only [World.size_alloc] at h; exact h
  have hR4 : Rd ((((w.alloc (.cells #[.int .u64 0, .int .u64 0, .int .u64 0, .int .u64 0, .int .u64 0, .int .u64 0] 24)).alloc (.cells #[.int .u64 0, .int .u64 0, .int .u64 0, .int .u64 0, .int .u64 0, .int .u64 0] 74)).alloc (.cells #[.iface 79 (.pointer (some ⟨w.heap.size + 1, 0, none⟩))] 135)).alloc (.cells #[.int .i64 v] 3)) 1 A d.length (Lib.byteCells d) := (((hR.alloc _).alloc _).alloc _).alloc _
  generalize hG : ((((w.alloc (.cells #[.int .u64 0, .int .u64 0, .int .u64 0, .int .u64 0, .int .u64 0, .int .u64 0] 24)).alloc (.cells #[.int .u64 0, .int .u64 0, .int .u64 0, .int .u64 0, .int .u64 0, .int .u64 0] 74)).alloc (.cells #[.iface 79 (.pointer (some ⟨w.heap.size + 1, 0, none⟩))] 135)).alloc (.cells #[.int .i64 v] 3)) = W4 at k0 hsz hZ hI hP hN hR4
  have hgot := got_errC W4 A c d  hR4 hc (fun i hi => by have := hA i hi; omega) 71 #[.pointer (some ⟨w.heap.size + 1 + 1, 0, none⟩), .pointer (some ⟨w.heap.size + 1 + 1 + 1, 0, none⟩)] fGotAware (RdrX (fun i => i = w.heap.size + 1) (W4.heap.size + 1 + 1) (W4.heap.size + 1) none) ?hS (fun w2 => True) ?hcall
  case hS =>
    rw [hsz]
    rintro (h | h | h | h)
    · omega
    · omega
    · omega
    · cases h
  case hcall =>
    intro w1 hR1 hK1
    have hI1 := hI.keeps hK1 (fun h => h)
    have hP1 := hP.keeps hK1 (fun h => h)
    have hN1 := hN.keeps hK1 (fun h => h)
    have b0 : w1.cell? ⟨w.heap.size + 1 + 1, 0, none⟩ = some (.iface 79 (.pointer (some ⟨w.heap.size + 1, 0, none⟩))) := hP1.cell 0
    have c0 : w1.cell? ⟨w.heap.size + 1 + 1 + 1, 0, none⟩ = some (.int .i64 v) := hN1.cell 0
    have bl := hP1.lt
    have cl := hN1.lt
    have hD : ob A ≠ some (w.heap.size + 1) := fun h => by have := hA _ h; omega
    have hde := hdec.out w1 _ _ _ (w.heap.size + 1) (ob A) none hI1 hD hR1
    clear hdec hI hP hN hZ hI1 hP1 hN1 hR1 hK1 hR4 hR k0 hG
    rw [hsz] at hde ⊢
    clear hsz
    show Calls Try.prog 71 #[.pointer (some ⟨w.heap.size + 1 + 1 + 1 + 1 + 1 + 1, 0, none⟩), .pointer (some ⟨w.heap.size + 1 + 1, 0, none⟩), .pointer (some ⟨w.heap.size + 1 + 1 + 1, 0, none⟩)] w1 _
    have HL := Lib.hid hL
    clear hL
    go_enter Try.func71, Try.ntmps71
    go_wp2_with fail
    refine hde.mono ?_
    have hL := HL.out
    rintro e w2 ⟨⟨m', hm', _⟩ | ⟨_, z, rfl, ⟨a, rfl⟩⟩, h3⟩
    · omega
    · clear hL
      go_wp2_with fail
      go_ret
      exact ⟨⟨_, rfl, ⟨_, rfl⟩⟩, h3, trivial⟩
  clear hdec hL hR hR4 hI hP hN
  generalize d.length = n at hgot hc ⊢
  go_enter Try.func12, Try.ntmps12
  go_wp2_with (first | (go_at_call 42; go_in))
  try simp only [hG]
  refine hgot.mono ?_
  clear hgot
  rintro e w3 ⟨w2, rfl, hI2, hK2, hK3⟩
  have hZ2 := (hZ.keeps hK2 (by
    rintro (h | h | h | h)
    · omega
    · omega
    · omega
    · cases h)).keeps hK3 (by omega)
  have zl := hZ2.lt
  have z0 : w3.cell? ⟨w.heap.size, 0, none⟩ = some (.int .u64 0) := hZ2.cell 0
  have zf0 := hZ2.frozen 0
  have z1 : w3.cell? ⟨w.heap.size, 1, none⟩ = some (.int .u64 0) := hZ2.cell 1
  have zf1 := hZ2.frozen 1
  have z2 : w3.cell? ⟨w.heap.size, 2, none⟩ = some (.int .u64 0) := hZ2.cell 2
  have zf2 := hZ2.frozen 2
  have z3 : w3.cell? ⟨w.heap.size, 3, none⟩ = some (.int .u64 0) := hZ2.cell 3
  have zf3 := hZ2.frozen 3
  have z4 : w3.cell? ⟨w.heap.size, 4, none⟩ = some (.int .u64 0) := hZ2.cell 4
  have zf4 := hZ2.frozen 4
  have z5 : w3.cell? ⟨w.heap.size, 5, none⟩ = some (.int .u64 0) := hZ2.cell 5
  have zf5 := hZ2.frozen 5
  go_wp2_with fail
  have hZ3 := ((((((hZ2.put 0 (.int .u64 0)).put 1 (.int .u64 0)).put 2 (.int .u64 0)).put 3 (.int .u64 0)).put 4 (.int .u64 0)).put 5 (.int .u64 0))
  have hk3 := ((((((Keeps.refl (fun i => i = w.heap.size) w3).setCell (p := ⟨w.heap.size, 0, none⟩) (.inl rfl) (.int .u64 0)).setCell (p := ⟨w.heap.size, 1, none⟩) (.inl rfl) (.int .u64 0)).setCell (p := ⟨w.heap.size, 2, none⟩) (.inl rfl) (.int .u64 0)).setCell (p := ⟨w.heap.size, 3, none⟩) (.inl rfl) (.int .u64 0)).setCell (p := ⟨w.heap.size, 4, none⟩) (.inl rfl) (.int .u64 0)).setCell (p := ⟨w.heap.size, 5, none⟩) (.inl rfl) (.int .u64 0)
  have hld := run_loadVar_row (P := Try.prog) _ w.heap.size 24 24 _ (0, 0) _ hZ3 Try.underlying24 rfl infoPg
  refine bodyPost_ret (results_cell3 rfl _ ⟨w.heap.size, 0, none⟩ _ _ rfl hld) rfl ⟨rfl, ?_⟩
  refine ((k0.trans hK2 ?_).trans hK3 ?_).trans hk3 ?_
  · rintro i hi (h | h | h | h)
    · omega
    · omega
    · omega
    · cases h
  · intro i hi h
    omega
  · intro i hi h
    omega

set_option maxRecDepth 100000 in
set_option maxHeartbeats 2000000 in
theorem pgGet6_ok (w : World) (A : Option Addr) (c : Nat) (v : Int) (hv : 54460 ≤ v) (p0 p1 p2 p3 p4 p5 : Nat) (h0 : p0 < 18446744073709551616) (h1 : p1 < 18446744073709551616) (h2 : p2 < 18446744073709551616) (h3 : p3 < 18446744073709551616) (h4 : p4 < 18446744073709551616) (h5 : p5 < 18446744073709551616) (rest d : List UInt8) (hd : d = (Lib.uvarint p0 ++ (Lib.uvarint p1 ++ (Lib.uvarint p2 ++ (Lib.uvarint p3 ++ (Lib.uvarint p4 ++ (Lib.uvarint p5)))))) ++ rest) (hR : Rd w 1 A d.length (Lib.byteCells d)) (hc : d.length ≤ c) (hA : ∀ i, ob A = some i → i < w.heap.size) :
    Calls Try.prog 12 #[.slice A d.length c, .int .i64 v] w fun e w' => e = .returned (.tuple #[.agg #[.int .u64 p0, .int .u64 p1, .int .u64 p2, .int .u64 p3, .int .u64 p4, .int .u64 p5], .int .i64 rest.length, .bool true]) ∧ Keeps (fun _ => False) w w' := by
  have hmf : ∀ (fn : Fn) (first cap : Array Value) (w : World), (Instr.makeFunc fn first cap).run Try.prog w = .ok (.func fn first cap) w := fun _ _ _ _ => rfl
  have hdec := Lib.hid (fun (w1 : World) (base rb bb g : Nat) (D R : Option Nat) (hI : Whole w1 g 74 #[.int .u64 0, .int .u64 0, .int .u64 0, .int .u64 0, .int .u64 0, .int .u64 0]) (hD : D ≠ some g) (hR : RdrOn w1 base rb bb D R d) => pgDecode6 w1 base rb bb g D R v hv p0 p1 p2 p3 p4 p5 d.length h0 h1 h2 h3 h4 h5 (Lib.uvarint p0 ++ (Lib.uvarint p1 ++ (Lib.uvarint p2 ++ (Lib.uvarint p3 ++ (Lib.uvarint p4 ++ (Lib.uvarint p5 ++ rest)))))) (Lib.uvarint p1 ++ (Lib.uvarint p2 ++ (Lib.uvarint p3 ++ (Lib.uvarint p4 ++ (Lib.uvarint p5 ++ rest))))) (Lib.uvarint p2 ++ (Lib.uvarint p3 ++ (Lib.uvarint p4 ++ (Lib.uvarint p5 ++ rest)))) (Lib.uvarint p3 ++ (Lib.uvarint p4 ++ (Lib.uvarint p5 ++ rest))) (Lib.uvarint p4 ++ (Lib.uvarint p5 ++ rest)) (Lib.uvarint p5 ++ rest) rest rfl rfl rfl rfl rfl rfl hI hD (by rw [List.take_of_length_le (by rw [hd]; simp)]; have e : d = Lib.uvarint p0 ++ (Lib.uvarint p1 ++ (Lib.uvarint p2 ++ (Lib.uvarint p3 ++ (Lib.uvarint p4 ++ (Lib.uvarint p5 ++ rest))))) := (by rw [hd]; simp); rw [← e]; exact hR))
  clear hv h0 h1 h2 h3 h4 h5
  have hL : d.length = (Lib.uvarint p0).length + (Lib.uvarint p1).length + (Lib.uvarint p2).length + (Lib.uvarint p3).length + (Lib.uvarint p4).length + (Lib.uvarint p5).length + rest.length := by rw [hd]; simp; omega
  clear hd 
  have k0 := ((((Keeps.refl (fun _ => False) w).alloc (.cells #[.int .u64 0, .int .u64 0, .int .u64 0, .int .u64 0, .int .u64 0, .int .u64 0] 24)).alloc (.cells #[.int .u64 0, .int .u64 0, .int .u64 0, .int .u64 0, .int .u64 0, .int .u64 0] 74)).alloc (.cells #[.iface 79 (.pointer (some ⟨w.heap.size + 1, 0, none⟩))] 135)).alloc (.cells #[.int .i64 v] 3)
  have hsz : (World.heap ((((w.alloc (.cells #[.int .u64 0, .int .u64 0, .int .u64 0, .int .u64 0, .int .u64 0, .int .u64 0] 24)).alloc (.cells #[.int .u64 0, .int .u64 0, .int .u64 0, .int .u64 0, .int .u64 0, .int .u64 0] 74)).alloc (.cells #[.iface 79 (.pointer (some ⟨w.heap.size + 1, 0, none⟩))] 135)).alloc (.cells #[.int .i64 v] 3))).size = w.heap.size + 1 + 1 + 1 + 1 := by simp only [World.size_alloc]
  have hZ : Whole ((((w.alloc (.cells #[.int .u64 0, .int .u64 0, .int .u64 0, .int .u64 0, .int .u64 0, .int .u64 0] 24)).alloc (.cells #[.int .u64 0, .int .u64 0, .int .u64 0, .int .u64 0, .int .u64 0, .int .u64 0] 74)).alloc (.cells #[.iface 79 (.pointer (some ⟨w.heap.size + 1, 0, none⟩))] 135)).alloc (.cells #[.int .i64 v] 3)) w.heap.size 24 #[.int .u64 0, .int .u64 0, .int .u64 0, .int .u64 0, .int .u64 0, .int .u64 0] := (((Whole.new w 24 #[.int .u64 0, .int .u64 0, .int .u64 0, .int .u64 0, .int .u64 0, .int .u64 0]).alloc _).alloc _).alloc _
  have hI : Whole ((((w.alloc (.cells #[.int .u64 0, .int .u64 0, .int .u64 0, .int .u64 0, .int .u64 0, .int .u64 0] 24)).alloc (.cells #[.int .u64 0, .int .u64 0, .int .u64 0, .int .u64 0, .int .u64 0, .int .u64 0] 74)).alloc (.cells #[.iface 79 (.pointer (some ⟨w.heap.size + 1, 0, none⟩))] 135)).alloc (.cells #[.int .i64 v] 3)) (w.heap.size + 1) 74 #[.int .u64 0, .int .u64 0, .int .u64 0, .int .u64 0, .int .u64 0, .int .u64 0] := by have h := ((Whole.new (w.alloc (.cells #[.int .u64 0, .int .u64 0, .int .u64 0, .int .u64 0, .int .u64 0, .int .u64 0] 24)) 74 #[.int .u64 0, .int .u64 0, .int .u64 0, .int .u64 0, .int .u64 0, .int .u64 0]).alloc (.cells #[.iface 79 (.pointer (some ⟨w.heap.size + 1, 0, none⟩))] 135)).alloc (.cells #[.int .i64 v] 3); simp only [World.size_alloc] at h; exact h
  have hP : Whole ((((w.alloc (.cells #[.int .u64 0, .int .u64 0, .int .u64 0, .int .u64 0, .int .u64 0, .int .u64 0] 24)).alloc (.cells #[.int .u64 0, .int .u64 0, .int .u64 0, .int .u64 0, .int .u64 0, .int .u64 0] 74)).alloc (.cells #[.iface 79 (.pointer (some ⟨w.heap.size + 1, 0, none⟩))] 135)).alloc (.cells #[.int .i64 v] 3)) (w.heap.size + 1 + 1) 135 #[.iface 79 (.pointer (some ⟨w.heap.size + 1, 0, none⟩))] := by have h := (Whole.new ((w.alloc (.cells #[.int .u64 0, .int .u64 0, .int .u64 0, .int .u64 0, .int .u64 0, .int .u64 0] 24)).alloc (.cells #[.int .u64 0, .int .u64 0, .int .u64 0, .int .u64 0, .int .u64 0, .int .u64 0] 74)) 135 #[.iface 79 (.pointer (some ⟨w.heap.size + 1, 0, none⟩))]).alloc (.cells #[.int .i64 v] 3); simp only [World.size_alloc] at h; exact h
  have hN : Whole ((((w.alloc (.cells #[.int .u64 0, .int .u64 0, .int .u64 0, .int .u64 0, .int .u64 0, .int .u64 0] 24)).alloc (.cells #[.int .u64 0, .int .u64 0, .int .u64 0, .int .u64 0, .int .u64 0, .int .u64 0] 74)).alloc (.cells #[.iface 79 (.pointer (some ⟨w.heap.size + 1, 0, none⟩))] 135)).alloc (.cells #[.int .i64 v] 3)) (w.heap.size + 1 + 1 + 1) 3 #[.int .i64 v] := by have h := Whole.new (((w.alloc (.cells #[.int .u64 0, .int .u64 0, .int .u64 0, .int .u64 0, .int .u64 0, .int .u64 0] 24)).alloc (.cells #[.int .u64 0, .int .u64 0, .int .u64 0, .int .u64 0, .int .u64 0, .int .u64 0] 74)).alloc (.cells #[.iface 79 (.pointer (some ⟨w.heap.size + 1, 0, none⟩))] 135)) 3 #[.int .i64 v]; simp only [World.size_alloc] at h; exact h
  have hR4 : Rd ((((w.alloc (.cells #[.int .u64 0, .int .u64 0, .int .u64 0, .int .u64 0, .int .u64 0, .int .u64 0] 24)).alloc (.cells #[.int .u64 0, .int .u64 0, .int .u64 0, .int .u64 0, .int .u64 0, .int .u64 0] 74)).alloc (.cells #[.iface 79 (.pointer (some ⟨w.heap.size + 1, 0, none⟩))] 135)).alloc (.cells #[.int .i64 v] 3)) 1 A d.length (Lib.byteCells d) := (((hR.alloc _).alloc _).alloc _).alloc _
  generalize hG : ((((w.alloc (.cells #[.int .u64 0, .int .u64 0, .int .u64 0, .int .u64 0, .int .u64 0, .int .u64 0] 24)).alloc (.cells #[.int .u64 0, .int .u64 0, .int .u64 0, .int .u64 0, .int .u64 0, .int .u64 0] 74)).alloc (.cells #[.iface 79 (.pointer (some ⟨w.heap.size + 1, 0, none⟩))] 135)).alloc (.cells #[.int .i64 v] 3)) = W4 at k0 hsz hZ hI hP hN hR4
  have hgot := got_okC W4 A c d rest hR4 hc (fun i hi => by have := hA i hi; omega) 71 #[.pointer (some ⟨w.heap.size + 1 + 1, 0, none⟩), .pointer (some ⟨w.heap.size + 1 + 1 + 1, 0, none⟩)] fGotAware (RdrX (fun i => i = w.heap.size + 1) (W4.heap.size + 1 + 1) (W4.heap.size + 1) none) ?hS (fun w2 => Whole w2 (w.heap.size + 1) 74 #[.int .u64 p0, .int .u64 p1, .int .u64 p2, .int .u64 p3, .int .u64 p4, .int .u64 p5]) ?hcall
  case hS =>
    rw [hsz]
    rintro (h | h | h | h)
    · omega
    · omega
    · omega
    · cases h
  case hcall =>
    intro w1 hR1 hK1
    have hI1 := hI.keeps hK1 (fun h => h)
    have hP1 := hP.keeps hK1 (fun h => h)
    have hN1 := hN.keeps hK1 (fun h => h)
    have b0 : w1.cell? ⟨w.heap.size + 1 + 1, 0, none⟩ = some (.iface 79 (.pointer (some ⟨w.heap.size + 1, 0, none⟩))) := hP1.cell 0
    have c0 : w1.cell? ⟨w.heap.size + 1 + 1 + 1, 0, none⟩ = some (.int .i64 v) := hN1.cell 0
    have bl := hP1.lt
    have cl := hN1.lt
    have hD : ob A ≠ some (w.heap.size + 1) := fun h => by have := hA _ h; omega
    have hde := hdec.out w1 _ _ _ (w.heap.size + 1) (ob A) none hI1 hD hR1
    clear hdec hI hP hN hZ hI1 hP1 hN1 hR1 hK1 hR4 hR k0 hG
    rw [hsz] at hde ⊢
    clear hsz
    show Calls Try.prog 71 #[.pointer (some ⟨w.heap.size + 1 + 1 + 1 + 1 + 1 + 1, 0, none⟩), .pointer (some ⟨w.heap.size + 1 + 1, 0, none⟩), .pointer (some ⟨w.heap.size + 1 + 1 + 1, 0, none⟩)] w1 _
    have HL := Lib.hid hL
    clear hL
    go_enter Try.func71, Try.ntmps71
    go_wp2_with fail
    refine hde.mono ?_
    have hL := HL.out
    rintro e w2 ⟨⟨m', hm', rfl, h1, h2⟩ | ⟨hm, _⟩, h3⟩
    · obtain rfl : m' = rest.length := by omega
      rw [List.take_length] at h1
      clear hm' hL
      go_wp2_with fail
      go_ret
      exact ⟨rfl, h1, h3, h2⟩
    · omega
  clear hdec hL hR hR4 hI hP hN
  generalize d.length = n at hgot hc ⊢
  generalize rest.length = m at hgot ⊢
  go_enter Try.func12, Try.ntmps12
  go_wp2_with (first | (go_at_call 42; go_in))
  try simp only [hG]
  refine hgot.mono ?_
  clear hgot
  rintro e w3 ⟨w2, rfl, hI2, hK2, hK3⟩
  have hZ2 := (hZ.keeps hK2 (by
    rintro (h | h | h | h)
    · omega
    · omega
    · omega
    · cases h)).keeps hK3 (by omega)
  have zl := hZ2.lt
  have z0 : w3.cell? ⟨w.heap.size, 0, none⟩ = some (.int .u64 0) := hZ2.cell 0
  have zf0 := hZ2.frozen 0
  have z1 : w3.cell? ⟨w.heap.size, 1, none⟩ = some (.int .u64 0) := hZ2.cell 1
  have zf1 := hZ2.frozen 1
  have z2 : w3.cell? ⟨w.heap.size, 2, none⟩ = some (.int .u64 0) := hZ2.cell 2
  have zf2 := hZ2.frozen 2
  have z3 : w3.cell? ⟨w.heap.size, 3, none⟩ = some (.int .u64 0) := hZ2.cell 3
  have zf3 := hZ2.frozen 3
  have z4 : w3.cell? ⟨w.heap.size, 4, none⟩ = some (.int .u64 0) := hZ2.cell 4
  have zf4 := hZ2.frozen 4
  have z5 : w3.cell? ⟨w.heap.size, 5, none⟩ = some (.int .u64 0) := hZ2.cell 5
  have zf5 := hZ2.frozen 5
  have hI3 := hI2.keeps hK3 (by omega)
  have q0 : w3.cell? ⟨w.heap.size + 1, 0, none⟩ = some (.int .u64 p0) := hI3.cell 0
  have q1 : w3.cell? ⟨w.heap.size + 1, 1, none⟩ = some (.int .u64 p1) := hI3.cell 1
  have q2 : w3.cell? ⟨w.heap.size + 1, 2, none⟩ = some (.int .u64 p2) := hI3.cell 2
  have q3 : w3.cell? ⟨w.heap.size + 1, 3, none⟩ = some (.int .u64 p3) := hI3.cell 3
  have q4 : w3.cell? ⟨w.heap.size + 1, 4, none⟩ = some (.int .u64 p4) := hI3.cell 4
  have q5 : w3.cell? ⟨w.heap.size + 1, 5, none⟩ = some (.int .u64 p5) := hI3.cell 5
  have ql := hI3.lt
  go_wp2_with fail
  have hZ3 := ((((((hZ2.put 0 (.int .u64 p0)).put 1 (.int .u64 p1)).put 2 (.int .u64 p2)).put 3 (.int .u64 p3)).put 4 (.int .u64 p4)).put 5 (.int .u64 p5))
  have hk3 := ((((((Keeps.refl (fun i => i = w.heap.size) w3).setCell (p := ⟨w.heap.size, 0, none⟩) (.inl rfl) (.int .u64 p0)).setCell (p := ⟨w.heap.size, 1, none⟩) (.inl rfl) (.int .u64 p1)).setCell (p := ⟨w.heap.size, 2, none⟩) (.inl rfl) (.int .u64 p2)).setCell (p := ⟨w.heap.size, 3, none⟩) (.inl rfl) (.int .u64 p3)).setCell (p := ⟨w.heap.size, 4, none⟩) (.inl rfl) (.int .u64 p4)).setCell (p := ⟨w.heap.size, 5, none⟩) (.inl rfl) (.int .u64 p5)
  have hld := run_loadVar_row (P := Try.prog) _ w.heap.size 24 24 _ (0, 0) _ hZ3 Try.underlying24 rfl infoPg
  refine bodyPost_ret (results_cell3 rfl _ ⟨w.heap.size, 0, none⟩ _ _ rfl hld) rfl ⟨rfl, ?_⟩
  refine ((k0.trans hK2 ?_).trans hK3 ?_).trans hk3 ?_
  · rintro i hi (h | h | h | h)
    · omega
    · omega
    · omega
    · cases h
  · intro i hi h
    omega
  · intro i hi h
    omega

set_option maxRecDepth 100000 in
set_option maxHeartbeats 2000000 in
theorem pgGet6_err (w : World) (A : Option Addr) (c : Nat) (v : Int) (hv : 54460 ≤ v) (p0 p1 p2 p3 p4 p5 : Nat) (h0 : p0 < 18446744073709551616) (h1 : p1 < 18446744073709551616) (h2 : p2 < 18446744073709551616) (h3 : p3 < 18446744073709551616) (h4 : p4 < 18446744073709551616) (h5 : p5 < 18446744073709551616) (d : List UInt8) (m : Nat) (hm : m < (Lib.uvarint p0 ++ (Lib.uvarint p1 ++ (Lib.uvarint p2 ++ (Lib.uvarint p3 ++ (Lib.uvarint p4 ++ (Lib.uvarint p5)))))).length) (hd : d = (Lib.uvarint p0 ++ (Lib.uvarint p1 ++ (Lib.uvarint p2 ++ (Lib.uvarint p3 ++ (Lib.uvarint p4 ++ (Lib.uvarint p5)))))).take m) (hR : Rd w 1 A d.length (Lib.byteCells d)) (hc : d.length ≤ c) (hA : ∀ i, ob A = some i → i < w.heap.size) :
    Calls Try.prog 12 #[.slice A d.length c, .int .i64 v] w fun e w' => e = .returned (.tuple #[.agg #[.int .u64 0, .int .u64 0, .int .u64 0, .int .u64 0, .int .u64 0, .int .u64 0], .int .i64 0, .bool false]) ∧ Keeps (fun _ => False) w w' := by
  have hmf : ∀ (fn : Fn) (first cap : Array Value) (w : World), (Instr.makeFunc fn first cap).run Try.prog w = .ok (.func fn first cap) w := fun _ _ _ _ => rfl
  have hdec := Lib.hid (fun (w1 : World) (base rb bb g : Nat) (D R : Option Nat) (hI : Whole w1 g 74 #[.int .u64 0, .int .u64 0, .int .u64 0, .int .u64 0, .int .u64 0, .int .u64 0]) (hD : D ≠ some g) (hR : RdrOn w1 base rb bb D R d) => pgDecode6 w1 base rb bb g D R v hv p0 p1 p2 p3 p4 p5 m h0 h1 h2 h3 h4 h5 (Lib.uvarint p0 ++ (Lib.uvarint p1 ++ (Lib.uvarint p2 ++ (Lib.uvarint p3 ++ (Lib.uvarint p4 ++ (Lib.uvarint p5 ++ [])))))) (Lib.uvarint p1 ++ (Lib.uvarint p2 ++ (Lib.uvarint p3 ++ (Lib.uvarint p4 ++ (Lib.uvarint p5 ++ []))))) (Lib.uvarint p2 ++ (Lib.uvarint p3 ++ (Lib.uvarint p4 ++ (Lib.uvarint p5 ++ [])))) (Lib.uvarint p3 ++ (Lib.uvarint p4 ++ (Lib.uvarint p5 ++ []))) (Lib.uvarint p4 ++ (Lib.uvarint p5 ++ [])) (Lib.uvarint p5 ++ []) [] rfl rfl rfl rfl rfl rfl hI hD (by have e : Lib.uvarint p0 ++ (Lib.uvarint p1 ++ (Lib.uvarint p2 ++ (Lib.uvarint p3 ++ (Lib.uvarint p4 ++ (Lib.uvarint p5 ++ []))))) = Lib.uvarint p0 ++ (Lib.uvarint p1 ++ (Lib.uvarint p2 ++ (Lib.uvarint p3 ++ (Lib.uvarint p4 ++ (Lib.uvarint p5))))) := (by simp); rw [e, ← hd]; exact hR))
  clear hv h0 h1 h2 h3 h4 h5
  have hL : m < (Lib.uvarint p0).length + (Lib.uvarint p1).length + (Lib.uvarint p2).length + (Lib.uvarint p3).length + (Lib.uvarint p4).length + (Lib.uvarint p5).length := by simp at hm; omega
  clear hd hm
  have k0 := ((((Keeps.refl (fun _ => False) w).alloc (.cells #[.int .u64 0, .int .u64 0, .int .u64 0, .int .u64 0, .int .u64 0, .int .u64 0] 24)).alloc (.cells #[.int .u64 0, .int .u64 0, .int .u64 0, .int .u64 0, .int .u64 0, .int .u64 0] 74)).alloc (.cells #[.iface 79 (.pointer (some ⟨w.heap.size + 1, 0, none⟩))] 135)).alloc (.cells #[.int .i64 v] 3)
  have hsz : (World.heap ((((w.alloc (.cells #[.int .u64 0, .int .u64 0, .int .u64 0, .int .u64 0, .int .u64 0, .int .u64 0] 24)).alloc (.cells #[.int .u64 0, .int .u64 0, .int .u64 0, .int .u64 0, .int .u64 0, .int .u64 0] 74)).alloc (.cells #[.iface 79 (.pointer (some ⟨w.heap.size + 1, 0, none⟩))] 135)).alloc (.cells #[.int .i64 v] 3))).size = w.heap.size + 1 + 1 + 1 + 1 := by simp only [World.size_alloc]
  have hZ : Whole ((((w.alloc (.cells #[.int .u64 0, .int .u64 0, .int .u64 0, .int .u64 0, .int .u64 0, .int .u64 0] 24)).alloc (.cells #[.int .u64 0, .int .u64 0, .int .u64 0, .int .u64 0, .int .u64 0, .int .u64 0] 74)).alloc (.cells #[.iface 79 (.pointer (some ⟨w.heap.size + 1, 0, none⟩))] 135)).alloc (.cells #[.int .i64 v] 3)) w.heap.size 24 #[.int .u64 0, .int .u64 0, .int .u64 0, .int .u64 0, .int .u64 0, .int .u64 0] := (((Whole.new w 24 #[.int .u64 0, .int .u64 0, .int .u64 0, .int .u64 0, .int .u64 0, .int .u64 0]).alloc _).alloc _).alloc _
  have hI : Whole ((((w.alloc (.cells #[.int .u64 0, .int .u64 0, .int .u64 0, .int .u64 0, .int .u64 0, .int .u64 0] 24)).alloc (.cells #[.int .u64 0, .int .u64 0, .int .u64 0, .int .u64 0, .int .u64 0, .int .u64 0] 74)).alloc (.cells #[.iface 79 (.pointer (some ⟨w.heap.size + 1, 0, none⟩))] 135)).alloc (.cells #[.int .i64 v] 3)) (w.heap.size + 1) 74 #[.int .u64 0, .int .u64 0, .int .u64 0, .int .u64 0, .int .u64 0, .int .u64 0] := by have h := ((Whole.new (w.alloc (.cells #[.int .u64 0, .int .u64 0, .int .u64 0, .int .u64 0, .int .u64 0, .int .u64 0] 24)) 74 #[.int .u64 0, .int .u64 0, .int .u64 0, .int .u64 0, .int .u64 0, .int .u64 0]).alloc (.cells #[.iface 79 (.pointer (some ⟨w.heap.size + 1, 0, none⟩))] 135)).alloc (.cells #[.int .i64 v] 3); simp only [World.size_alloc] at h; exact h
  have hP : Whole ((((w.alloc (.cells #[.int .u64 0, .int .u64 0, .int .u64 0, .int .u64 0, .int .u64 0, .int .u64 0] 24)).alloc (.cells #[.int .u64 0, .int .u64 0, .int .u64 0, .int .u64 0, .int .u64 0, .int .u64 0] 74)).alloc (.cells #[.iface 79 (.pointer (some ⟨w.heap.size + 1, 0, none⟩))] 135)).alloc (.cells #[.int .i64 v] 3)) (w.heap.size + 1 + 1) 135 #[.iface 79 (.pointer (some ⟨w.heap.size + 1, 0, none⟩))] := by have h := (Whole.new ((w.alloc (.cells #[.int .u64 0, .int .u64 0, .int .u64 0, .int .u64 0, .int .u64 0, .int .u64 0] 24)).alloc (.cells #[.int .u64 0, .int .u64 0, .int .u64 0, .int .u64 0, .int .u64 0, .int .u64 0] 74)) 135 #[.iface 79 (.pointer (some ⟨w.heap.size + 1, 0, none⟩))]).alloc (.cells #[.int .i64 v] 3); simp only [World.size_alloc] at h; exact h
  have hN : Whole ((((w.alloc (.cells #[.int .u64 0, .int .u64 0, .int .u64 0, .int .u64 0, .int .u64 0, .int .u64 0] 24)).alloc (.cells #[.int .u64 0, .int .u64 0, .int .u64 0, .int .u64 0, .int .u64 0, .int .u64 0] 74)).alloc (.cells #[.iface 79 (.pointer (some ⟨w.heap.size + 1, 0, none⟩))] 135)).alloc (.cells #[.int .i64 v] 3)) (w.heap.size + 1 + 1 + 1) 3 #[.int .i64 v] := by have h := Whole.new (((w.alloc (.cells #[.int .u64 0, .int .u64 0, .int .u64 0, .int .u64 0, .int .u64 0, .int .u64 0] 24)).alloc (.cells #[.int .u64 0, .int .u64 0, .int .u64 0, .int .u64 0, .int .u64 0, .int .u64 0] 74)).alloc (.cells #[.iface 79 (.pointer (some ⟨w.heap.size + 1, 0, none⟩))] 135)) 3 #[.int .i64 v]; simp only [World.size_alloc] at h; exact h
  have hR4 : Rd ((((w.alloc (.cells #[.int .u64 0, .int .u64 0, .int .u64 0, .int .u64 0, .int .u64 0, .int .u64 0] 24)).alloc (.cells #[.int .u64 0, .int .u64 0, .int .u64 0, .int .u64 0, .int .u64 0, .int .u64 0] 74)).alloc (.cells #[.iface 79 (.pointer (some ⟨w.heap.size + 1, 0, none⟩))] 135)).alloc (.cells #[.int .i64 v] 3)) 1 A d.length (Lib.byteCells d) := (((hR.alloc _).alloc _).alloc _).alloc _
  generalize hG : ((((w.alloc (.cells #[.int .u64 0, .int .u64 0, .int .u64 0, .int .u64 0, .int .u64 0, .int .u64 0] 24)).alloc (.cells #[.int .u64 0, .int .u64 0, .int .u64 0, .int .u64 0, .int .u64 0, .int .u64 0] 74)).alloc (.cells #[.iface 79 (.pointer (some ⟨w.heap.size + 1, 0, none⟩))] 135)).alloc (.cells #[.int .i64 v] 3)) = W4 at k0 hsz hZ hI hP hN hR4
  have hgot := got_errC W4 A c d  hR4 hc (fun i hi => by have := hA i hi; omega) 71 #[.pointer (some ⟨w.heap.size + 1 + 1, 0, none⟩), .pointer (some ⟨w.heap.size + 1 + 1 + 1, 0, none⟩)] fGotAware (RdrX (fun i => i = w.heap.size + 1) (W4.heap.size + 1 + 1) (W4.heap.size + 1) none) ?hS (fun w2 => True) ?hcall
  case hS =>
    rw [hsz]
    rintro (h | h | h | h)
    · omega
    · omega
    · omega
    · cases h
  case hcall =>
    intro w1 hR1 hK1
    have hI1 := hI.keeps hK1 (fun h => h)
    have hP1 := hP.keeps hK1 (fun h => h)
    have hN1 := hN.keeps hK1 (fun h => h)
    have b0 : w1.cell? ⟨w.heap.size + 1 + 1, 0, none⟩ = some (.iface 79 (.pointer (some ⟨w.heap.size + 1, 0, none⟩))) := hP1.cell 0
    have c0 : w1.cell? ⟨w.heap.size + 1 + 1 + 1, 0, none⟩ = some (.int .i64 v) := hN1.cell 0
    have bl := hP1.lt
    have cl := hN1.lt
    have hD : ob A ≠ some (w.heap.size + 1) := fun h => by have := hA _ h; omega
    have hde := hdec.out w1 _ _ _ (w.heap.size + 1) (ob A) none hI1 hD hR1
    clear hdec hI hP hN hZ hI1 hP1 hN1 hR1 hK1 hR4 hR k0 hG
    rw [hsz] at hde ⊢
    clear hsz
    show Calls Try.prog 71 #[.pointer (some ⟨w.heap.size + 1 + 1 + 1 + 1 + 1 + 1, 0, none⟩), .pointer (some ⟨w.heap.size + 1 + 1, 0, none⟩), .pointer (some ⟨w.heap.size + 1 + 1 + 1, 0, none⟩)] w1 _
    have HL := Lib.hid hL
    clear hL
    go_enter Try.func71, Try.ntmps71
    go_wp2_with fail
    refine hde.mono ?_
    have hL := HL.out
    rintro e w2 ⟨⟨m', hm', _⟩ | ⟨_, z, rfl, ⟨a, rfl⟩⟩, h3⟩
    · omega
    · clear hL
      go_wp2_with fail
      go_ret
      exact ⟨⟨_, rfl, ⟨_, rfl⟩⟩, h3, trivial⟩
  clear hdec hL hR hR4 hI hP hN
  generalize d.length = n at hgot hc ⊢
  go_enter Try.func12, Try.ntmps12
  go_wp2_with (first | (go_at_call 42; go_in))
  try simp only [hG]
  refine hgot.mono ?_
  clear hgot
  rintro e w3 ⟨w2, rfl, hI2, hK2, hK3⟩
  have hZ2 := (hZ.keeps hK2 (by
    rintro (h | h | h | h)
    · omega
    · omega
    · omega
    · cases h)).keeps hK3 (by omega)
  have zl := hZ2.lt
  have z0 : w3.cell? ⟨w.heap.size, 0, none⟩ = some (.int .u64 0) := hZ2.cell 0
  have zf0 := hZ2.frozen 0
  have z1 : w3.cell? ⟨w.heap.size, 1, none⟩ = some (.int .u64 0) := hZ2.cell 1
  have zf1 := hZ2.frozen 1
  have z2 : w3.cell? ⟨w.heap.size, 2, none⟩ = some (.int .u64 0) := hZ2.cell 2
  have zf2 := hZ2.frozen 2
  have z3 : w3.cell? ⟨w.heap.size, 3, none⟩ = some (.int .u64 0) := hZ2.cell 3
  have zf3 := hZ2.frozen 3
  have z4 : w3.cell? ⟨w.heap.size, 4, none⟩ = some (.int .u64 0) := hZ2.cell 4
  have zf4 := hZ2.frozen 4
  have z5 : w3.cell? ⟨w.heap.size, 5, none⟩ = some (.int .u64 0) := hZ2.cell 5
  have zf5 := hZ2.frozen 5
  go_wp2_with fail
  have hZ3 := ((((((hZ2.put 0 (.int .u64 0)).put 1 (.int .u64 0)).put 2 (.int .u64 0)).put 3 (.int .u64 0)).put 4 (.int .u64 0)).put 5 (.int .u64 0))
  have hk3 := ((((((Keeps.refl (fun i => i = w.heap.size) w3).setCell (p := ⟨w.heap.size, 0, none⟩) (.inl rfl) (.int .u64 0)).setCell (p := ⟨w.heap.size, 1, none⟩) (.inl rfl) (.int .u64 0)).setCell (p := ⟨w.heap.size, 2, none⟩) (.inl rfl) (.int .u64 0)).setCell (p := ⟨w.heap.size, 3, none⟩) (.inl rfl) (.int .u64 0)).setCell (p := ⟨w.heap.size, 4, none⟩) (.inl rfl) (.int .u64 0)).setCell (p := ⟨w.heap.size, 5, none⟩) (.inl rfl) (.int .u64 0)
  have hld := run_loadVar_row (P := Try.prog) _ w.heap.size 24 24 _ (0, 0) _ hZ3 Try.underlying24 rfl infoPg
  refine bodyPost_ret (results_cell3 rfl _ ⟨w.heap.size, 0, none⟩ _ _ rfl hld) rfl ⟨rfl, ?_⟩
  refine ((k0.trans hK2 ?_).trans hK3 ?_).trans hk3 ?_
  · rintro i hi (h | h | h | h)
    · omega
    · omega
    · omega
    · cases h
  · intro i hi h
    omega
  · intro i hi h
    omega
end Go.Proofs.Ytlemmkcofmofiaa
