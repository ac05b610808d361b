/- TableColumns and ClientData: put into a buffer, read by a reader. Conditions: strings far below the machine's size. -/
import Derived.Test.YtlemmkcofmofiaaStrR
import Derived.Test.YtlemmkcofmofiaaEncC
import Derived.Test.YtlemmkcofmofiaaGotK
namespace Go.Proofs.Ytlemmkcofmofiaa
open Go.RowKit Go.Lib
set_option linter.unusedVariables false

set_option maxRecDepth 100000 in
set_option maxHeartbeats 1000000 in
theorem tabEncode (w : World) (base bb : Nat) (A : Option Addr) (c : Nat) (a b : ByteArray) (hB : BufAt w base bb A c []) (ha : a.size ≤ 1000) (hb : b.size ≤ 1000) :
    Calls Try.prog 117 #[.agg #[.string a, .string b], .pointer (some ⟨bb, 0, none⟩), .int .i64 0] w fun e w' => ∃ A' c', e = .returned (.tuple #[]) ∧ Put w w' base bb A A' c' (11 :: (strB a ++ strB b)) := by
  have hlt := hB.blk.lt
  have k0 := (Keeps.refl (fun _ => False) w).alloc (.cells #[.string a, .string b] 83)
  have hB0 := hB.keeps k0 (fun h => h) (fun _ _ h => h)
  have hW0 := Whole.new w 83 #[.string a, .string b]
  have hrow := hB.row_lo
  have la : (strB a).length ≤ 1010 := by have := Lib.uvarint_length64 (x := a.size) (by omega); rw [strB, List.length_append, sl_length]; omega
  have HA := Lib.hid ha
  have HB := Lib.hid hb
  clear ha hb
  go_enter Try.func117, Try.ntmps117
  go_wp2_with (first | (go_at_call 118; go_in) | (go_at_call 120; go_in))
  refine (putByte _ base bb A c [] 11 11 rfl hB0 (by simp)).mono ?_
  rintro e w1 ⟨A1, c1, rfl, hP1⟩
  have hW1 := hW0.keeps hP1.keeps (by rintro (h | h); (omega); exact absurd (hrow _ h).2 (by omega))
  have q0 : w1.cell? ⟨w.heap.size, 0, none⟩ = some (.string a) := hW1.cell 0
  have q1 : w1.cell? ⟨w.heap.size, 1, none⟩ = some (.string b) := hW1.cell 1
  go_wp2_with fail
  go_end0
  go_wp2_with fail
  go_end0
  go_wp2_with fail
  refine (putString w1 base bb A1 c1 _ a hP1.at' (by simp) (by have := HA.out; omega)).mono ?_
  rintro e w2 ⟨A2, c2, rfl, hP2⟩
  have hP12 := hP1.trans hP2
  have hW2 := hW0.keeps hP12.keeps (by rintro (h | h); (omega); exact absurd (hrow _ h).2 (by omega))
  have q2 : w2.cell? ⟨w.heap.size, 1, none⟩ = some (.string b) := hW2.cell 1
  go_wp2_with fail
  refine (putString w2 base bb A2 c2 _ b hP12.at' (by simp; omega) (by have := HB.out; omega)).mono ?_
  rintro e w3 ⟨A3, c3, rfl, hP3⟩
  have hP13 := hP12.trans hP3
  go_wp2_with fail
  go_end0
  have e : (11 :: (strB a ++ strB b) : List UInt8) = [] ++ [11] ++ strB a ++ strB b := by simp
  rw [e]
  first | exact ⟨A3, c3, rfl, hP13.behind k0⟩ | exact ⟨rfl, A3, c3, hP13.behind k0⟩

set_option maxRecDepth 100000 in
set_option maxHeartbeats 1000000 in
theorem datEncodeYes (w : World) (base bb : Nat) (A : Option Addr) (c : Nat) (v : Int) (hv : 50264 ≤ v) (a : ByteArray) (hB : BufAt w base bb A c []) (ha : a.size ≤ 1000) :
    Calls Try.prog 130 #[.agg #[.string a], .pointer (some ⟨bb, 0, none⟩), .int .i64 v] w fun e w' => ∃ A' c', e = .returned (.tuple #[]) ∧ Put w w' base bb A A' c' (strB a) := by
  have hlt := hB.blk.lt
  have k0 := (Keeps.refl (fun _ => False) w).alloc (.cells #[.string a] 86)
  have hB0 := hB.keeps k0 (fun h => h) (fun _ _ h => h)
  have HA := Lib.hid ha
  have i1 : (50264 : Int) ≤ v := hv
  clear hv ha
  go_enter Try.func130, Try.ntmps130
  go_wp2_with (first | (go_at_call 111; go_in) | (go_at_call 113; go_in))
  refine (putString _ base bb A c [] a hB0 (by simp) (by have := HA.out; omega)).mono ?_
  rintro e w2 ⟨A2, c2, rfl, hP2⟩
  go_wp2_with fail
  go_end0
  rw [List.nil_append] at hP2
  first | exact ⟨A2, c2, rfl, hP2.behind k0⟩ | exact ⟨rfl, A2, c2, hP2.behind k0⟩

set_option maxRecDepth 100000 in
set_option maxHeartbeats 1000000 in
theorem datEncodeNo (w : World) (base bb : Nat) (A : Option Addr) (c : Nat) (v : Int) (hv : v < 50264) (a : ByteArray) (hB : BufAt w base bb A c []) (ha : a.size ≤ 1000) :
    Calls Try.prog 130 #[.agg #[.string a], .pointer (some ⟨bb, 0, none⟩), .int .i64 v] w fun e w' => ∃ A' c', e = .returned (.tuple #[]) ∧ Put w w' base bb A A' c' [] := by
  have hlt := hB.blk.lt
  have k0 := (Keeps.refl (fun _ => False) w).alloc (.cells #[.string a] 86)
  have hB0 := hB.keeps k0 (fun h => h) (fun _ _ h => h)
  have HA := Lib.hid ha
  have i1 : ¬ (50264 : Int) ≤ v := by omega
  clear hv ha
  go_enter Try.func130, Try.ntmps130
  go_wp2_with (first | (go_at_call 111; go_in) | (go_at_call 113; go_in))
  go_end0
  first | exact ⟨A, c, rfl, (Put.refl hB0).behind k0⟩ | exact ⟨rfl, A, c, (Put.refl hB0).behind k0⟩

set_option maxRecDepth 100000 in
set_option maxHeartbeats 1000000 in
theorem str_whole (w : World) (base rb bb : Nat) (D R : Option Nat) (s : ByteArray) (d : List UInt8) (hs : s.size ≤ 1000) (hR : RdrOn w base rb bb D R (strB s ++ d)) :
    Calls Try.prog 124 #[.pointer (some ⟨rb, 0, none⟩)] w fun e w' => e = .returned (.tuple #[.string s, .nilIface]) ∧ RdrGo w w' base rb bb D R d := by
  refine (strStep w base rb bb D R s (strB s ++ d).length d (by omega) (by rw [List.take_length]; exact hR)).mono ?_
  rintro e w' (⟨m', hm, rfl, hG⟩ | ⟨hm, _⟩)
  · rw [List.length_append] at hm
    obtain rfl : m' = d.length := by omega
    rw [List.take_length] at hG
    exact ⟨rfl, hG⟩
  · rw [List.length_append] at hm
    omega

set_option maxRecDepth 100000 in
set_option maxHeartbeats 1000000 in
theorem tabDecode (w : World) (base rb bb g : Nat) (D R : Option Nat) (a b : ByteArray) (d : List UInt8) (ha : a.size ≤ 1000) (hb : b.size ≤ 1000) (hI : Whole w g 83 #[.string ⟨#[]⟩, .string ⟨#[]⟩]) (hD : D ≠ some g) (hR : RdrOn w base rb bb D R (strB a ++ (strB b ++ d))) :
    Calls Try.prog 123 #[.pointer (some ⟨g, 0, none⟩), .pointer (some ⟨rb, 0, none⟩), .int .i64 0] w fun e w' => e = .returned .nilIface ∧ (∃ R', RdrOn w' base rb bb D R' d) ∧ Whole w' g 83 #[.string a, .string b] ∧ Keeps (RdrX (fun i => i = g) rb bb R) w w' := by
  have hlt := hI.lt
  have HA := Lib.hid ha
  have HB := Lib.hid hb
  clear ha hb
  go_enter Try.func123, Try.ntmps123
  go_wp2_with fail
  refine (str_whole w base rb bb D R a _ HA.out hR).mono ?_
  rintro e v0 ⟨rfl, hG0⟩
  have J0 := hI.keeps hG0.keeps (hR.apart hI (by decide) (by decide) (by decide))
  obtain ⟨R1, hT1, hF0⟩ := hG0.on
  have ap0 := hT1.apart J0 (by decide) (by decide) (by decide)
  have kk0 : Keeps (fun i => i = g) v0 (v0.setCell ⟨g, 0, none⟩ (.string a)) := (Keeps.refl (fun i => i = g) v0).setCell (.inl rfl) _
  have hR1 := hT1.keeps kk0 (fun h => ap0 (.inl h.symm)) (fun h => ap0 (.inr (.inl h.symm))) (fun i hi h => ap0 (.inr (.inr (h ▸ hi)))) (fun i hi h => hD (h ▸ hi))
  have hI1 : Whole (v0.setCell ⟨g, 0, none⟩ (.string a)) g 83 #[.string a, .string ⟨#[]⟩] := J0.put 0 (.string a)
  have s1 := RdrX.store (RdrX.step (Keeps.refl (RdrX (fun i => i = g) rb bb R) w) (.inl rfl) hG0.keeps) kk0
  have c0 : v0.cell? ⟨g, 0, none⟩ = some (.string ⟨#[]⟩) := J0.cell 0
  have f0 := J0.frozen 0
  have gl0 := J0.lt
  go_wp2_with fail
  refine (str_whole _ base rb bb D R1 b _ HB.out hR1).mono ?_
  rintro e v1 ⟨rfl, hG1⟩
  have J1 := hI1.keeps hG1.keeps (hR1.apart hI1 (by decide) (by decide) (by decide))
  obtain ⟨R2, hT2, hF1⟩ := hG1.on
  have ap1 := hT2.apart J1 (by decide) (by decide) (by decide)
  have kk1 : Keeps (fun i => i = g) v1 (v1.setCell ⟨g, 1, none⟩ (.string b)) := (Keeps.refl (fun i => i = g) v1).setCell (.inl rfl) _
  have hR2 := hT2.keeps kk1 (fun h => ap1 (.inl h.symm)) (fun h => ap1 (.inr (.inl h.symm))) (fun i hi h => ap1 (.inr (.inr (h ▸ hi)))) (fun i hi h => hD (h ▸ hi))
  have hI2 : Whole (v1.setCell ⟨g, 1, none⟩ (.string b)) g 83 #[.string a, .string b] := J1.put 1 (.string b)
  have s2 := RdrX.store (RdrX.step s1 hF0 hG1.keeps) kk1
  have c1 : v1.cell? ⟨g, 1, none⟩ = some (.string ⟨#[]⟩) := J1.cell 1
  have f1 := J1.frozen 1
  have gl1 := J1.lt
  go_wp2_with fail
  go_ret
  exact ⟨rfl, ⟨R2, hR2⟩, hI2, s2⟩

set_option maxRecDepth 100000 in
set_option maxHeartbeats 1000000 in
theorem datDecodeYes (w : World) (base rb bb g : Nat) (D R : Option Nat) (v : Int) (hv : 50264 ≤ v) (a : ByteArray) (d : List UInt8) (ha : a.size ≤ 1000) (hI : Whole w g 86 #[.string ⟨#[]⟩]) (hD : D ≠ some g) (hR : RdrOn w base rb bb D R (strB a ++ d)) :
    Calls Try.prog 131 #[.pointer (some ⟨g, 0, none⟩), .pointer (some ⟨rb, 0, none⟩), .int .i64 v] w fun e w' => e = .returned .nilIface ∧ (∃ R', RdrOn w' base rb bb D R' d) ∧ Whole w' g 86 #[.string a] ∧ Keeps (RdrX (fun i => i = g) rb bb R) w w' := by
  have hlt := hI.lt
  have HA := Lib.hid ha
  have i1 : (50264 : Int) ≤ v := hv
  clear hv ha
  go_enter Try.func131, Try.ntmps131
  go_wp2_with (first | (go_at_call 111; go_in) | (go_at_call 113; go_in))
  refine (str_whole w base rb bb D R a _ HA.out hR).mono ?_
  rintro e v0 ⟨rfl, hG0⟩
  have J0 := hI.keeps hG0.keeps (hR.apart hI (by decide) (by decide) (by decide))
  obtain ⟨R1, hT1, hF0⟩ := hG0.on
  have ap0 := hT1.apart J0 (by decide) (by decide) (by decide)
  have kk0 : Keeps (fun i => i = g) v0 (v0.setCell ⟨g, 0, none⟩ (.string a)) := (Keeps.refl (fun i => i = g) v0).setCell (.inl rfl) _
  have hR1 := hT1.keeps kk0 (fun h => ap0 (.inl h.symm)) (fun h => ap0 (.inr (.inl h.symm))) (fun i hi h => ap0 (.inr (.inr (h ▸ hi)))) (fun i hi h => hD (h ▸ hi))
  have hI1 : Whole (v0.setCell ⟨g, 0, none⟩ (.string a)) g 86 #[.string a] := J0.put 0 (.string a)
  have s1 := RdrX.store (RdrX.step (Keeps.refl (RdrX (fun i => i = g) rb bb R) w) (.inl rfl) hG0.keeps) kk0
  have c0 : v0.cell? ⟨g, 0, none⟩ = some (.string ⟨#[]⟩) := J0.cell 0
  have f0 := J0.frozen 0
  have gl0 := J0.lt
  go_wp2_with fail
  go_ret
  exact ⟨rfl, ⟨R1, hR1⟩, hI1, s1⟩

set_option maxRecDepth 100000 in
set_option maxHeartbeats 1000000 in
theorem datDecodeNo (w : World) (base rb bb g : Nat) (D R : Option Nat) (v : Int) (hv : v < 50264) (a : ByteArray) (d : List UInt8) (ha : a.size ≤ 1000) (hI : Whole w g 86 #[.string ⟨#[]⟩]) (hD : D ≠ some g) (hR : RdrOn w base rb bb D R d) :
    Calls Try.prog 131 #[.pointer (some ⟨g, 0, none⟩), .pointer (some ⟨rb, 0, none⟩), .int .i64 v] w fun e w' => e = .returned .nilIface ∧ (∃ R', RdrOn w' base rb bb D R' d) ∧ Whole w' g 86 #[.string ⟨#[]⟩] ∧ Keeps (RdrX (fun i => i = g) rb bb R) w w' := by
  have hlt := hI.lt
  have HA := Lib.hid ha
  have i1 : ¬ (50264 : Int) ≤ v := by omega
  clear hv ha
  go_enter Try.func131, Try.ntmps131
  go_wp2_with (first | (go_at_call 111; go_in) | (go_at_call 113; go_in))
  go_ret
  exact ⟨rfl, ⟨R, hR⟩, hI, Keeps.refl _ _⟩
end Go.Proofs.Ytlemmkcofmofiaa
