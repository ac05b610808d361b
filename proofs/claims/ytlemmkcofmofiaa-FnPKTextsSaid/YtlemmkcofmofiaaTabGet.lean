/- PKTable, PKTableGet, PKData, PKDataGet. Conditions: short strings. -/
import Derived.Test.YtlemmkcofmofiaaTab
import Derived.Test.YtlemmkcofmofiaaPgGet
import Derived.BigQuiet
namespace Go.Proofs.Ytlemmkcofmofiaa
open Go.RowKit Go.Lib
set_option linter.unusedVariables false
theorem results_tmp4' {fn : Func} {t u v x : Tmp} (h : fn.results = #[.tmp t, .tmp u, .tmp v, .tmp x]) (tmps : Array Value) (P : Program) (w : World) :
    (results fn tmps).run P w = .ok (.tuple #[tmps.getD t undef, tmps.getD u undef, tmps.getD v undef, tmps.getD x undef]) w := by simp [results, h]

set_option maxRecDepth 100000 in
set_option maxHeartbeats 1000000 in
theorem tabPut (w : World) (a b : ByteArray) (ha : a.size ≤ 1000) (hb : b.size ≤ 1000) :
    Calls Try.prog 17 #[.string a, .string b] w fun e w' => ∃ A c, e = .returned (.slice A (11 :: (strB a ++ strB b) : List UInt8).length c) ∧ w'.ownsRow w.heap.size 5 1 (.slice A (11 :: (strB a ++ strB b) : List UInt8).length c) (11 :: (strB a ++ strB b) : List UInt8).length (Lib.byteCells (11 :: (strB a ++ strB b) : List UInt8)) ∧ Keeps (fun _ => False) w w' ∧ ∀ k, ob A = some k → w.heap.size ≤ k := by
  have hmf : ∀ (fn : Fn) (first cap : Array Value) (w : World), (Instr.makeFunc fn first cap).run Try.prog w = .ok (.func fn first cap) w := fun _ _ _ _ => rfl
  have HV := Lib.hid (fun (w1 : World) (bb : Nat) (hB : BufAt w1 bb bb none 0 []) => tabEncode w1 bb bb none 0 a b hB ha hb)
  clear ha hb
  have k0 := ((Keeps.refl (fun _ => False) w).alloc (.cells #[.iface 83 (.agg #[.string a, .string b])] 128)).alloc (.cells #[.int .i64 0] 3)
  have hA : Whole ((w.alloc (.cells #[.iface 83 (.agg #[.string a, .string b])] 128)).alloc (.cells #[.int .i64 0] 3)) w.heap.size 128 #[.iface 83 (.agg #[.string a, .string b])] := (Whole.new w 128 #[.iface 83 (.agg #[.string a, .string b])]).alloc (.cells #[.int .i64 0] 3)
  have hC : Whole ((w.alloc (.cells #[.iface 83 (.agg #[.string a, .string b])] 128)).alloc (.cells #[.int .i64 0] 3)) (w.heap.size + 1) 3 #[.int .i64 0] := by have h := Whole.new (w.alloc (.cells #[.iface 83 (.agg #[.string a, .string b])] 128)) 3 #[.int .i64 0]; rw [World.size_alloc] at h; exact h
  have henc := encoded_anyC ((w.alloc (.cells #[.iface 83 (.agg #[.string a, .string b])] 128)).alloc (.cells #[.int .i64 0] 3)) (11 :: (strB a ++ strB b) : List UInt8) 69 #[.pointer (some ⟨w.heap.size, 0, none⟩), .pointer (some ⟨w.heap.size + 1, 0, none⟩)] fPutAware (by
    intro w1 hB1 hK1
    have hA1 := hA.keeps hK1 (fun h => h)
    have hC1 := hC.keeps hK1 (fun h => h)
    have a0 : w1.cell? ⟨w.heap.size, 0, none⟩ = some (.iface 83 (.agg #[.string a, .string b])) := hA1.cell 0
    have c0 : w1.cell? ⟨w.heap.size + 1, 0, none⟩ = some (.int .i64 0) := hC1.cell 0
    have la := hA1.lt
    have lc := hC1.lt
    have henc := HV.out w1 _ hB1
    generalize (World.heap ((w.alloc (.cells #[.iface 83 (.agg #[.string a, .string b])] 128)).alloc (.cells #[.int .i64 0] 3))).size = bb at hB1 henc ⊢
    clear hA hC hA1 hC1 k0 hK1 HV hB1
    show Calls Try.prog 69 #[.pointer (some ⟨bb, 0, none⟩), .pointer (some ⟨w.heap.size, 0, none⟩), .pointer (some ⟨w.heap.size + 1, 0, none⟩)] w1 _
    go_enter Try.func69, Try.ntmps69
    go_wp2_with fail
    refine henc.mono ?_
    rintro e w2 ⟨A, c, rfl, hP⟩
    go_wp2_with fail
    go_end0
    first | exact ⟨rfl, A, c, hP⟩ | exact ⟨A, c, hP⟩)
  clear HV
  generalize (11 :: (strB a ++ strB b) : List UInt8) = d at henc ⊢
  go_enter Try.func17, Try.ntmps17
  go_wp2_with (first | (go_at_call 40; go_in))
  refine henc.mono ?_
  clear henc
  rintro e w2 ⟨A, c, rfl, hown, hK, hA⟩
  go_wp2_with fail
  go_ret
  exact ⟨A, c, rfl, own_lower hown k0.size, k0.trans hK (fun _ _ h => h), fun i hi => Nat.le_trans k0.size (hA i hi)⟩

set_option maxRecDepth 100000 in
set_option maxHeartbeats 1000000 in
theorem datPutYes (w : World) (v : Int) (hv : 50264 ≤ v) (a : ByteArray) (ha : a.size ≤ 1000) :
    Calls Try.prog 21 #[.string a, .int .i64 v] w fun e w' => ∃ A c, e = .returned (.slice A (strB a).length c) ∧ w'.ownsRow w.heap.size 5 1 (.slice A (strB a).length c) (strB a).length (Lib.byteCells (strB a)) ∧ Keeps (fun _ => False) w w' ∧ ∀ k, ob A = some k → w.heap.size ≤ k := by
  have hmf : ∀ (fn : Fn) (first cap : Array Value) (w : World), (Instr.makeFunc fn first cap).run Try.prog w = .ok (.func fn first cap) w := fun _ _ _ _ => rfl
  have HV := Lib.hid (fun (w1 : World) (bb : Nat) (hB : BufAt w1 bb bb none 0 []) => datEncodeYes w1 bb bb none 0 v hv a hB ha)
  clear hv ha
  have k0 := ((Keeps.refl (fun _ => False) w).alloc (.cells #[.iface 86 (.agg #[.string a])] 128)).alloc (.cells #[.int .i64 v] 3)
  have hA : Whole ((w.alloc (.cells #[.iface 86 (.agg #[.string a])] 128)).alloc (.cells #[.int .i64 v] 3)) w.heap.size 128 #[.iface 86 (.agg #[.string a])] := (Whole.new w 128 #[.iface 86 (.agg #[.string a])]).alloc (.cells #[.int .i64 v] 3)
  have hC : Whole ((w.alloc (.cells #[.iface 86 (.agg #[.string a])] 128)).alloc (.cells #[.int .i64 v] 3)) (w.heap.size + 1) 3 #[.int .i64 v] := by have h := Whole.new (w.alloc (.cells #[.iface 86 (.agg #[.string a])] 128)) 3 #[.int .i64 v]; rw [World.size_alloc] at h; exact h
  have henc := encoded_anyC ((w.alloc (.cells #[.iface 86 (.agg #[.string a])] 128)).alloc (.cells #[.int .i64 v] 3)) (strB a) 69 #[.pointer (some ⟨w.heap.size, 0, none⟩), .pointer (some ⟨w.heap.size + 1, 0, none⟩)] fPutAware (by
    intro w1 hB1 hK1
    have hA1 := hA.keeps hK1 (fun h => h)
    have hC1 := hC.keeps hK1 (fun h => h)
    have a0 : w1.cell? ⟨w.heap.size, 0, none⟩ = some (.iface 86 (.agg #[.string a])) := hA1.cell 0
    have c0 : w1.cell? ⟨w.heap.size + 1, 0, none⟩ = some (.int .i64 v) := hC1.cell 0
    have la := hA1.lt
    have lc := hC1.lt
    have henc := HV.out w1 _ hB1
    generalize (World.heap ((w.alloc (.cells #[.iface 86 (.agg #[.string a])] 128)).alloc (.cells #[.int .i64 v] 3))).size = bb at hB1 henc ⊢
    clear hA hC hA1 hC1 k0 hK1 HV hB1
    show Calls Try.prog 69 #[.pointer (some ⟨bb, 0, none⟩), .pointer (some ⟨w.heap.size, 0, none⟩), .pointer (some ⟨w.heap.size + 1, 0, none⟩)] w1 _
    go_enter Try.func69, Try.ntmps69
    go_wp2_with fail
    refine henc.mono ?_
    rintro e w2 ⟨A, c, rfl, hP⟩
    go_wp2_with fail
    go_end0
    first | exact ⟨rfl, A, c, hP⟩ | exact ⟨A, c, hP⟩)
  clear HV
  generalize (strB a) = d at henc ⊢
  go_enter Try.func21, Try.ntmps21
  go_wp2_with (first | (go_at_call 40; go_in))
  refine henc.mono ?_
  clear henc
  rintro e w2 ⟨A, c, rfl, hown, hK, hA⟩
  go_wp2_with fail
  go_ret
  exact ⟨A, c, rfl, own_lower hown k0.size, k0.trans hK (fun _ _ h => h), fun i hi => Nat.le_trans k0.size (hA i hi)⟩

set_option maxRecDepth 100000 in
set_option maxHeartbeats 1000000 in
theorem datPutNo (w : World) (v : Int) (hv : v < 50264) (a : ByteArray) (ha : a.size ≤ 1000) :
    Calls Try.prog 21 #[.string a, .int .i64 v] w fun e w' => ∃ A c, e = .returned (.slice A ([] : List UInt8).length c) ∧ w'.ownsRow w.heap.size 5 1 (.slice A ([] : List UInt8).length c) ([] : List UInt8).length (Lib.byteCells ([] : List UInt8)) ∧ Keeps (fun _ => False) w w' ∧ ∀ k, ob A = some k → w.heap.size ≤ k := by
  have hmf : ∀ (fn : Fn) (first cap : Array Value) (w : World), (Instr.makeFunc fn first cap).run Try.prog w = .ok (.func fn first cap) w := fun _ _ _ _ => rfl
  have HV := Lib.hid (fun (w1 : World) (bb : Nat) (hB : BufAt w1 bb bb none 0 []) => datEncodeNo w1 bb bb none 0 v hv a hB ha)
  clear hv ha
  have k0 := ((Keeps.refl (fun _ => False) w).alloc (.cells #[.iface 86 (.agg #[.string a])] 128)).alloc (.cells #[.int .i64 v] 3)
  have hA : Whole ((w.alloc (.cells #[.iface 86 (.agg #[.string a])] 128)).alloc (.cells #[.int .i64 v] 3)) w.heap.size 128 #[.iface 86 (.agg #[.string a])] := (Whole.new w 128 #[.iface 86 (.agg #[.string a])]).alloc (.cells #[.int .i64 v] 3)
  have hC : Whole ((w.alloc (.cells #[.iface 86 (.agg #[.string a])] 128)).alloc (.cells #[.int .i64 v] 3)) (w.heap.size + 1) 3 #[.int .i64 v] := by have h := Whole.new (w.alloc (.cells #[.iface 86 (.agg #[.string a])] 128)) 3 #[.int .i64 v]; rw [World.size_alloc] at h; exact h
  have henc := encoded_anyC ((w.alloc (.cells #[.iface 86 (.agg #[.string a])] 128)).alloc (.cells #[.int .i64 v] 3)) ([] : List UInt8) 69 #[.pointer (some ⟨w.heap.size, 0, none⟩), .pointer (some ⟨w.heap.size + 1, 0, none⟩)] fPutAware (by
    intro w1 hB1 hK1
    have hA1 := hA.keeps hK1 (fun h => h)
    have hC1 := hC.keeps hK1 (fun h => h)
    have a0 : w1.cell? ⟨w.heap.size, 0, none⟩ = some (.iface 86 (.agg #[.string a])) := hA1.cell 0
    have c0 : w1.cell? ⟨w.heap.size + 1, 0, none⟩ = some (.int .i64 v) := hC1.cell 0
    have la := hA1.lt
    have lc := hC1.lt
    have henc := HV.out w1 _ hB1
    generalize (World.heap ((w.alloc (.cells #[.iface 86 (.agg #[.string a])] 128)).alloc (.cells #[.int .i64 v] 3))).size = bb at hB1 henc ⊢
    clear hA hC hA1 hC1 k0 hK1 HV hB1
    show Calls Try.prog 69 #[.pointer (some ⟨bb, 0, none⟩), .pointer (some ⟨w.heap.size, 0, none⟩), .pointer (some ⟨w.heap.size + 1, 0, none⟩)] w1 _
    go_enter Try.func69, Try.ntmps69
    go_wp2_with fail
    refine henc.mono ?_
    rintro e w2 ⟨A, c, rfl, hP⟩
    go_wp2_with fail
    go_end0
    first | exact ⟨rfl, A, c, hP⟩ | exact ⟨A, c, hP⟩)
  clear HV
  generalize ([] : List UInt8) = d at henc ⊢
  go_enter Try.func21, Try.ntmps21
  go_wp2_with (first | (go_at_call 40; go_in))
  refine henc.mono ?_
  clear henc
  rintro e w2 ⟨A, c, rfl, hown, hK, hA⟩
  go_wp2_with fail
  go_ret
  exact ⟨A, c, rfl, own_lower hown k0.size, k0.trans hK (fun _ _ h => h), fun i hi => Nat.le_trans k0.size (hA i hi)⟩

set_option maxRecDepth 100000 in
set_option maxHeartbeats 2000000 in
theorem tabGet (w : World) (A : Option Addr) (c : Nat) (a b : ByteArray) (ha : a.size ≤ 1000) (hb : b.size ≤ 1000) (rest d : List UInt8) (hd : d = (11 :: (strB a ++ strB b)) ++ rest) (hR : Rd w 1 A d.length (Lib.byteCells d)) (hc : d.length ≤ c) (hA : ∀ i, ob A = some i → i < w.heap.size) :
    Calls Try.prog 18 #[.slice A d.length c] w fun e w' => e = .returned (.tuple #[.string a, .string b, .int .i64 rest.length, .bool true]) ∧ Keeps (fun _ => False) w w' := by
  have hmf : ∀ (fn : Fn) (first cap : Array Value) (w : World), (Instr.makeFunc fn first cap).run Try.prog w = .ok (.func fn first cap) w := fun _ _ _ _ => rfl
  have hdec := Lib.hid (fun (w1 : World) (base rb bb g : Nat) (D R : Option Nat) (hI : Whole w1 g 83 #[.string ⟨#[]⟩, .string ⟨#[]⟩]) (hD : D ≠ some g) hR => tabDecode w1 base rb bb g D R a b rest ha hb hI hD hR)
  clear ha hb
  have k0 := (((Keeps.refl (fun _ => False) w).alloc (.cells #[.string ⟨#[]⟩, .string ⟨#[]⟩] 83)).alloc (.cells #[.iface 84 (.pointer (some ⟨w.heap.size, 0, none⟩))] 135)).alloc (.cells #[.int .i64 0] 3)
  have hsz : (World.heap (((w.alloc (.cells #[.string ⟨#[]⟩, .string ⟨#[]⟩] 83)).alloc (.cells #[.iface 84 (.pointer (some ⟨w.heap.size, 0, none⟩))] 135)).alloc (.cells #[.int .i64 0] 3))).size = w.heap.size + 1 + 1 + 1 := by simp only [World.size_alloc]
  have hI : Whole (((w.alloc (.cells #[.string ⟨#[]⟩, .string ⟨#[]⟩] 83)).alloc (.cells #[.iface 84 (.pointer (some ⟨w.heap.size, 0, none⟩))] 135)).alloc (.cells #[.int .i64 0] 3)) w.heap.size 83 #[.string ⟨#[]⟩, .string ⟨#[]⟩] := ((Whole.new w 83 #[.string ⟨#[]⟩, .string ⟨#[]⟩]).alloc _).alloc _
  have hP : Whole (((w.alloc (.cells #[.string ⟨#[]⟩, .string ⟨#[]⟩] 83)).alloc (.cells #[.iface 84 (.pointer (some ⟨w.heap.size, 0, none⟩))] 135)).alloc (.cells #[.int .i64 0] 3)) (w.heap.size + 1) 135 #[.iface 84 (.pointer (some ⟨w.heap.size, 0, none⟩))] := by have h := (Whole.new (w.alloc (.cells #[.string ⟨#[]⟩, .string ⟨#[]⟩] 83)) 135 #[.iface 84 (.pointer (some ⟨w.heap.size, 0, none⟩))]).alloc (.cells #[.int .i64 0] 3); simp only [World.size_alloc] at h; exact h
  have hN : Whole (((w.alloc (.cells #[.string ⟨#[]⟩, .string ⟨#[]⟩] 83)).alloc (.cells #[.iface 84 (.pointer (some ⟨w.heap.size, 0, none⟩))] 135)).alloc (.cells #[.int .i64 0] 3)) (w.heap.size + 1 + 1) 3 #[.int .i64 0] := by have h := Whole.new ((w.alloc (.cells #[.string ⟨#[]⟩, .string ⟨#[]⟩] 83)).alloc (.cells #[.iface 84 (.pointer (some ⟨w.heap.size, 0, none⟩))] 135)) 3 #[.int .i64 0]; simp only [World.size_alloc] at h; exact h
  have hR4 : Rd (((w.alloc (.cells #[.string ⟨#[]⟩, .string ⟨#[]⟩] 83)).alloc (.cells #[.iface 84 (.pointer (some ⟨w.heap.size, 0, none⟩))] 135)).alloc (.cells #[.int .i64 0] 3)) 1 A d.length (Lib.byteCells d) := ((hR.alloc _).alloc _).alloc _
  generalize hG : (((w.alloc (.cells #[.string ⟨#[]⟩, .string ⟨#[]⟩] 83)).alloc (.cells #[.iface 84 (.pointer (some ⟨w.heap.size, 0, none⟩))] 135)).alloc (.cells #[.int .i64 0] 3)) = W4 at k0 hsz hI hP hN hR4
  have hgot := got_okK W4 A c 11 11 rfl d (strB a ++ (strB b ++ rest)) rest (by rw [hd]; simp) hR4 hc (fun i hi => by have := hA i hi; omega) 71 #[.pointer (some ⟨w.heap.size + 1, 0, none⟩), .pointer (some ⟨w.heap.size + 1 + 1, 0, none⟩)] fGotAware (fun i => i = w.heap.size) (by omega) (fun w2 => Whole w2 w.heap.size 83 #[.string a, .string b]) ?hcall
  case hcall =>
    intro w1 Rx hR1 hK1
    have hI1 := hI.keeps hK1 (fun h => h)
    have hP1 := hP.keeps hK1 (fun h => h)
    have hN1 := hN.keeps hK1 (fun h => h)
    have b0 : w1.cell? ⟨w.heap.size + 1, 0, none⟩ = some (.iface 84 (.pointer (some ⟨w.heap.size, 0, none⟩))) := hP1.cell 0
    have c0 : w1.cell? ⟨w.heap.size + 1 + 1, 0, none⟩ = some (.int .i64 0) := hN1.cell 0
    have bl := hP1.lt
    have cl := hN1.lt
    have hD : ob A ≠ some w.heap.size := fun h => by have := hA _ h; omega
    have hde := hdec.out w1 _ _ _ w.heap.size (ob A) Rx hI1 hD hR1
    clear hdec hI hP hN hI1 hP1 hN1 hR1 hK1 hR4 hR k0 hG
    rw [hsz] at hde ⊢
    clear hsz
    show Calls Try.prog 71 #[.pointer (some ⟨w.heap.size + 1 + 1 + 1 + 1 + 1, 0, none⟩), .pointer (some ⟨w.heap.size + 1, 0, none⟩), .pointer (some ⟨w.heap.size + 1 + 1, 0, none⟩)] w1 _
    go_enter Try.func71, Try.ntmps71
    go_wp2_with fail
    refine hde.mono ?_
    rintro e w2 ⟨rfl, h1, h2, h3⟩
    go_wp2_with fail
    go_ret
    exact ⟨rfl, h1, h3, h2⟩
  clear hdec hd hR hR4 hI hP hN
  generalize d.length = n at hgot hc ⊢
  generalize rest.length = m at hgot ⊢
  go_enter Try.func18, Try.ntmps18
  go_wp2_with (first | (go_at_call 42; go_in))
  try simp only [hG]
  refine hgot.mono ?_
  clear hgot
  rintro e w3 ⟨w2, rfl, hI2, hK2, hK3⟩
  have hI3 := hI2.keeps hK3 (by omega)
  have ql := hI3.lt
  have q0 : w3.cell? ⟨w.heap.size, 0, none⟩ = some (.string a) := hI3.cell 0
  have q1 : w3.cell? ⟨w.heap.size, 1, none⟩ = some (.string b) := hI3.cell 1
  go_wp2_with fail
  go_quiet (fail)
  go_wp2_with fail
  refine bodyPost_ret (results_tmp4' rfl _ _ _) rfl ⟨rfl, ?_⟩
  refine Keeps.drewN ?_ _
  refine (k0.trans hK2 ?_).trans hK3 ?_
  · intro i hi h
    omega
  · intro i hi h
    omega

set_option maxRecDepth 100000 in
set_option maxHeartbeats 2000000 in
theorem datGetYes (w : World) (A : Option Addr) (c : Nat) (v : Int) (hv : 50264 ≤ v) (a : ByteArray) (ha : a.size ≤ 1000) (rest d : List UInt8) (hd : d = strB a ++ rest) (hR : Rd w 1 A d.length (Lib.byteCells d)) (hc : d.length ≤ c) (hA : ∀ i, ob A = some i → i < w.heap.size) :
    Calls Try.prog 22 #[.slice A d.length c, .int .i64 v] w fun e w' => e = .returned (.tuple #[.string a, .int .i64 rest.length, .bool true]) ∧ Keeps (fun _ => False) w w' := by
  have hmf : ∀ (fn : Fn) (first cap : Array Value) (w : World), (Instr.makeFunc fn first cap).run Try.prog w = .ok (.func fn first cap) w := fun _ _ _ _ => rfl
  have hdec := Lib.hid (fun (w1 : World) (base rb bb g : Nat) (D R : Option Nat) (hI : Whole w1 g 86 #[.string ⟨#[]⟩]) (hD : D ≠ some g) hR => datDecodeYes w1 base rb bb g D R v hv a rest ha hI hD hR)
  clear hv ha
  have k0 := (((Keeps.refl (fun _ => False) w).alloc (.cells #[.string ⟨#[]⟩] 86)).alloc (.cells #[.iface 87 (.pointer (some ⟨w.heap.size, 0, none⟩))] 135)).alloc (.cells #[.int .i64 v] 3)
  have hsz : (World.heap (((w.alloc (.cells #[.string ⟨#[]⟩] 86)).alloc (.cells #[.iface 87 (.pointer (some ⟨w.heap.size, 0, none⟩))] 135)).alloc (.cells #[.int .i64 v] 3))).size = w.heap.size + 1 + 1 + 1 := by simp only [World.size_alloc]
  have hI : Whole (((w.alloc (.cells #[.string ⟨#[]⟩] 86)).alloc (.cells #[.iface 87 (.pointer (some ⟨w.heap.size, 0, none⟩))] 135)).alloc (.cells #[.int .i64 v] 3)) w.heap.size 86 #[.string ⟨#[]⟩] := ((Whole.new w 86 #[.string ⟨#[]⟩]).alloc _).alloc _
  have hP : Whole (((w.alloc (.cells #[.string ⟨#[]⟩] 86)).alloc (.cells #[.iface 87 (.pointer (some ⟨w.heap.size, 0, none⟩))] 135)).alloc (.cells #[.int .i64 v] 3)) (w.heap.size + 1) 135 #[.iface 87 (.pointer (some ⟨w.heap.size, 0, none⟩))] := by have h := (Whole.new (w.alloc (.cells #[.string ⟨#[]⟩] 86)) 135 #[.iface 87 (.pointer (some ⟨w.heap.size, 0, none⟩))]).alloc (.cells #[.int .i64 v] 3); simp only [World.size_alloc] at h; exact h
  have hN : Whole (((w.alloc (.cells #[.string ⟨#[]⟩] 86)).alloc (.cells #[.iface 87 (.pointer (some ⟨w.heap.size, 0, none⟩))] 135)).alloc (.cells #[.int .i64 v] 3)) (w.heap.size + 1 + 1) 3 #[.int .i64 v] := by have h := Whole.new ((w.alloc (.cells #[.string ⟨#[]⟩] 86)).alloc (.cells #[.iface 87 (.pointer (some ⟨w.heap.size, 0, none⟩))] 135)) 3 #[.int .i64 v]; simp only [World.size_alloc] at h; exact h
  have hR4 : Rd (((w.alloc (.cells #[.string ⟨#[]⟩] 86)).alloc (.cells #[.iface 87 (.pointer (some ⟨w.heap.size, 0, none⟩))] 135)).alloc (.cells #[.int .i64 v] 3)) 1 A d.length (Lib.byteCells d) := ((hR.alloc _).alloc _).alloc _
  generalize hG : (((w.alloc (.cells #[.string ⟨#[]⟩] 86)).alloc (.cells #[.iface 87 (.pointer (some ⟨w.heap.size, 0, none⟩))] 135)).alloc (.cells #[.int .i64 v] 3)) = W4 at k0 hsz hI hP hN hR4
  have hgot := got_okC W4 A c d rest hR4 hc (fun i hi => by have := hA i hi; omega) 71 #[.pointer (some ⟨w.heap.size + 1, 0, none⟩), .pointer (some ⟨w.heap.size + 1 + 1, 0, none⟩)] fGotAware (RdrX (fun i => i = w.heap.size) (W4.heap.size + 1 + 1) (W4.heap.size + 1) none) ?hS (fun w2 => Whole w2 w.heap.size 86 #[.string a]) ?hcall
  case hS =>
    rw [hsz]
    rintro (h | h | h | h)
    · omega
    · omega
    · omega
    · cases h
  case hcall =>
    intro w1 hR1 hK1
    rw [hd] at hR1
    have hI1 := hI.keeps hK1 (fun h => h)
    have hP1 := hP.keeps hK1 (fun h => h)
    have hN1 := hN.keeps hK1 (fun h => h)
    have b0 : w1.cell? ⟨w.heap.size + 1, 0, none⟩ = some (.iface 87 (.pointer (some ⟨w.heap.size, 0, none⟩))) := hP1.cell 0
    have c0 : w1.cell? ⟨w.heap.size + 1 + 1, 0, none⟩ = some (.int .i64 v) := hN1.cell 0
    have bl := hP1.lt
    have cl := hN1.lt
    have hD : ob A ≠ some w.heap.size := fun h => by have := hA _ h; omega
    have hde := hdec.out w1 _ _ _ w.heap.size (ob A) none hI1 hD hR1
    clear hdec hI hP hN hI1 hP1 hN1 hR1 hK1 hR4 hR k0 hG
    rw [hsz] at hde ⊢
    clear hsz
    show Calls Try.prog 71 #[.pointer (some ⟨w.heap.size + 1 + 1 + 1 + 1 + 1, 0, none⟩), .pointer (some ⟨w.heap.size + 1, 0, none⟩), .pointer (some ⟨w.heap.size + 1 + 1, 0, none⟩)] w1 _
    go_enter Try.func71, Try.ntmps71
    go_wp2_with fail
    refine hde.mono ?_
    rintro e w2 ⟨rfl, h1, h2, h3⟩
    go_wp2_with fail
    go_ret
    exact ⟨rfl, h1, h3, h2⟩
  clear hdec hd hR hR4 hI hP hN
  generalize d.length = n at hgot hc ⊢
  generalize rest.length = m at hgot ⊢
  go_enter Try.func22, Try.ntmps22
  go_wp2_with (first | (go_at_call 42; go_in))
  try simp only [hG]
  refine hgot.mono ?_
  clear hgot
  rintro e w3 ⟨w2, rfl, hI2, hK2, hK3⟩
  have hI3 := hI2.keeps hK3 (by omega)
  have ql := hI3.lt
  have q0 : w3.cell? ⟨w.heap.size, 0, none⟩ = some (.string a) := hI3.cell 0
  go_wp2_with fail
  refine bodyPost_ret (results_tmp3 rfl _ _ _) rfl ⟨rfl, ?_⟩
  refine (k0.trans hK2 ?_).trans hK3 ?_
  · rintro i hi (h | h | h | h)
    · omega
    · omega
    · omega
    · cases h
  · intro i hi h
    omega

set_option maxRecDepth 100000 in
set_option maxHeartbeats 2000000 in
theorem datGetNo (w : World) (A : Option Addr) (c : Nat) (v : Int) (hv : v < 50264) (a : ByteArray) (ha : a.size ≤ 1000) (rest d : List UInt8) (hd : d = rest) (hR : Rd w 1 A d.length (Lib.byteCells d)) (hc : d.length ≤ c) (hA : ∀ i, ob A = some i → i < w.heap.size) :
    Calls Try.prog 22 #[.slice A d.length c, .int .i64 v] w fun e w' => e = .returned (.tuple #[.string ⟨#[]⟩, .int .i64 rest.length, .bool true]) ∧ Keeps (fun _ => False) w w' := by
  have hmf : ∀ (fn : Fn) (first cap : Array Value) (w : World), (Instr.makeFunc fn first cap).run Try.prog w = .ok (.func fn first cap) w := fun _ _ _ _ => rfl
  have hdec := Lib.hid (fun (w1 : World) (base rb bb g : Nat) (D R : Option Nat) (hI : Whole w1 g 86 #[.string ⟨#[]⟩]) (hD : D ≠ some g) hR => datDecodeNo w1 base rb bb g D R v hv a rest ha hI hD hR)
  clear hv ha
  have k0 := (((Keeps.refl (fun _ => False) w).alloc (.cells #[.string ⟨#[]⟩] 86)).alloc (.cells #[.iface 87 (.pointer (some ⟨w.heap.size, 0, none⟩))] 135)).alloc (.cells #[.int .i64 v] 3)
  have hsz : (World.heap (((w.alloc (.cells #[.string ⟨#[]⟩] 86)).alloc (.cells #[.iface 87 (.pointer (some ⟨w.heap.size, 0, none⟩))] 135)).alloc (.cells #[.int .i64 v] 3))).size = w.heap.size + 1 + 1 + 1 := by simp only [World.size_alloc]
  have hI : Whole (((w.alloc (.cells #[.string ⟨#[]⟩] 86)).alloc (.cells #[.iface 87 (.pointer (some ⟨w.heap.size, 0, none⟩))] 135)).alloc (.cells #[.int .i64 v] 3)) w.heap.size 86 #[.string ⟨#[]⟩] := ((Whole.new w 86 #[.string ⟨#[]⟩]).alloc _).alloc _
  have hP : Whole (((w.alloc (.cells #[.string ⟨#[]⟩] 86)).alloc (.cells #[.iface 87 (.pointer (some ⟨w.heap.size, 0, none⟩))] 135)).alloc (.cells #[.int .i64 v] 3)) (w.heap.size + 1) 135 #[.iface 87 (.pointer (some ⟨w.heap.size, 0, none⟩))] := by have h := (Whole.new (w.alloc (.cells #[.string ⟨#[]⟩] 86)) 135 #[.iface 87 (.pointer (some ⟨w.heap.size, 0, none⟩))]).alloc (.cells #[.int .i64 v] 3); simp only [World.size_alloc] at h; exact h
  have hN : Whole (((w.alloc (.cells #[.string ⟨#[]⟩] 86)).alloc (.cells #[.iface 87 (.pointer (some ⟨w.heap.size, 0, none⟩))] 135)).alloc (.cells #[.int .i64 v] 3)) (w.heap.size + 1 + 1) 3 #[.int .i64 v] := by have h := Whole.new ((w.alloc (.cells #[.string ⟨#[]⟩] 86)).alloc (.cells #[.iface 87 (.pointer (some ⟨w.heap.size, 0, none⟩))] 135)) 3 #[.int .i64 v]; simp only [World.size_alloc] at h; exact h
  have hR4 : Rd (((w.alloc (.cells #[.string ⟨#[]⟩] 86)).alloc (.cells #[.iface 87 (.pointer (some ⟨w.heap.size, 0, none⟩))] 135)).alloc (.cells #[.int .i64 v] 3)) 1 A d.length (Lib.byteCells d) := ((hR.alloc _).alloc _).alloc _
  generalize hG : (((w.alloc (.cells #[.string ⟨#[]⟩] 86)).alloc (.cells #[.iface 87 (.pointer (some ⟨w.heap.size, 0, none⟩))] 135)).alloc (.cells #[.int .i64 v] 3)) = W4 at k0 hsz hI hP hN hR4
  have hgot := got_okC W4 A c d rest hR4 hc (fun i hi => by have := hA i hi; omega) 71 #[.pointer (some ⟨w.heap.size + 1, 0, none⟩), .pointer (some ⟨w.heap.size + 1 + 1, 0, none⟩)] fGotAware (RdrX (fun i => i = w.heap.size) (W4.heap.size + 1 + 1) (W4.heap.size + 1) none) ?hS (fun w2 => Whole w2 w.heap.size 86 #[.string ⟨#[]⟩]) ?hcall
  case hS =>
    rw [hsz]
    rintro (h | h | h | h)
    · omega
    · omega
    · omega
    · cases h
  case hcall =>
    intro w1 hR1 hK1
    rw [hd] at hR1
    have hI1 := hI.keeps hK1 (fun h => h)
    have hP1 := hP.keeps hK1 (fun h => h)
    have hN1 := hN.keeps hK1 (fun h => h)
    have b0 : w1.cell? ⟨w.heap.size + 1, 0, none⟩ = some (.iface 87 (.pointer (some ⟨w.heap.size, 0, none⟩))) := hP1.cell 0
    have c0 : w1.cell? ⟨w.heap.size + 1 + 1, 0, none⟩ = some (.int .i64 v) := hN1.cell 0
    have bl := hP1.lt
    have cl := hN1.lt
    have hD : ob A ≠ some w.heap.size := fun h => by have := hA _ h; omega
    have hde := hdec.out w1 _ _ _ w.heap.size (ob A) none hI1 hD hR1
    clear hdec hI hP hN hI1 hP1 hN1 hR1 hK1 hR4 hR k0 hG
    rw [hsz] at hde ⊢
    clear hsz
    show Calls Try.prog 71 #[.pointer (some ⟨w.heap.size + 1 + 1 + 1 + 1 + 1, 0, none⟩), .pointer (some ⟨w.heap.size + 1, 0, none⟩), .pointer (some ⟨w.heap.size + 1 + 1, 0, none⟩)] w1 _
    go_enter Try.func71, Try.ntmps71
    go_wp2_with fail
    refine hde.mono ?_
    rintro e w2 ⟨rfl, h1, h2, h3⟩
    go_wp2_with fail
    go_ret
    exact ⟨rfl, h1, h3, h2⟩
  clear hdec hd hR hR4 hI hP hN
  generalize d.length = n at hgot hc ⊢
  generalize rest.length = m at hgot ⊢
  go_enter Try.func22, Try.ntmps22
  go_wp2_with (first | (go_at_call 42; go_in))
  try simp only [hG]
  refine hgot.mono ?_
  clear hgot
  rintro e w3 ⟨w2, rfl, hI2, hK2, hK3⟩
  have hI3 := hI2.keeps hK3 (by omega)
  have ql := hI3.lt
  have q0 : w3.cell? ⟨w.heap.size, 0, none⟩ = some (.string ⟨#[]⟩) := hI3.cell 0
  go_wp2_with fail
  refine bodyPost_ret (results_tmp3 rfl _ _ _) rfl ⟨rfl, ?_⟩
  refine (k0.trans hK2 ?_).trans hK3 ?_
  · rintro i hi (h | h | h | h)
    · omega
    · omega
    · omega
    · cases h
  · intro i hi h
    omega
end Go.Proofs.Ytlemmkcofmofiaa
