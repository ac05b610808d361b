/- Progress read from bytes that may be cut off. Conditions: numbers of 64 bits. -/
import Derived.Test.YtlemmkcofmofiaaUvs
import Derived.Test.YtlemmkcofmofiaaGotC
namespace Go.Proofs.Ytlemmkcofmofiaa
open Go.RowKit
/-- How the reading ends: m bytes of those that are L long were there. -/
def PgEnd (w : World) (base rb bb g : Nat) (D R : Option Nat) (cs : Array Value) (L m : Nat) (rest : List UInt8) (e : Ending) (w' : World) : Prop :=
  ((∃ m', m = L + m' ∧ e = .returned .nilIface ∧ (∃ R', RdrOn w' base rb bb D R' (rest.take m')) ∧ Whole w' g 74 cs) ∨ (m < L ∧ ∃ v, e = .returned v ∧ IsErr v)) ∧ Keeps (RdrX (fun i => i = g) rb bb R) w w'

set_option maxRecDepth 100000 in
set_option maxHeartbeats 2000000 in
theorem pgDecode3 (w : World) (base rb bb g : Nat) (D R : Option Nat) (v : Int) (hv : v < 54420) (p0 p1 p2 m : Nat) (h0 : p0 < 18446744073709551616) (h1 : p1 < 18446744073709551616) (h2 : p2 < 18446744073709551616) (d0 : List UInt8) (d1 : List UInt8) (d2 : List UInt8) (rest : List UInt8) (e0 : d0 = Lib.uvarint p0 ++ d1) (e1 : d1 = Lib.uvarint p1 ++ d2) (e2 : d2 = Lib.uvarint p2 ++ rest)
    (hI : Whole w g 74 #[.int .u64 0, .int .u64 0, .int .u64 0, .int .u64 0, .int .u64 0, .int .u64 0]) (hD : D ≠ some g) (hR : RdrOn w base rb bb D R (d0.take m)) :
    Calls Try.prog 114 #[.pointer (some ⟨g, 0, none⟩), .pointer (some ⟨rb, 0, none⟩), .int .i64 v] w fun e w' => PgEnd w base rb bb g D R #[.int .u64 p0, .int .u64 p1, .int .u64 p2, .int .u64 0, .int .u64 0, .int .u64 0] ((Lib.uvarint p0).length + (Lib.uvarint p1).length + (Lib.uvarint p2).length) m rest e w' := by
  have hlt := hI.lt
  have H0 := Lib.hid h0
  clear h0
  have E0 := Lib.hid e0
  clear e0
  have H1 := Lib.hid h1
  clear h1
  have E1 := Lib.hid e1
  clear e1
  have H2 := Lib.hid h2
  clear h2
  have E2 := Lib.hid e2
  clear e2
  have i1 : ¬ (54420 : Int) ≤ v := by omega
  have i2 : ¬ (54460 : Int) ≤ v := by omega
  clear hv
  rw [E0.out] at hR
  go_enter Try.func114, Try.ntmps114
  have s0 := Keeps.refl (RdrX (fun i => i = g) rb bb R) w
  go_wp2_with (first | (go_at_call 111; go_in) | (go_at_call 113; go_in))
  refine (uv_step _ base rb bb D R p0 m d1 H0.out hR).mono ?_
  intro e v0 hst
  rcases hst with ⟨m1, hm1, rfl, hG0⟩ | ⟨hm, z, l, rfl, ⟨a, rfl⟩, hG⟩
  case inr =>
    go_wp2_with (go_at_call 89; go_in)
    go_ret
    refine ⟨.inr ⟨by omega, _, rfl, ⟨_, rfl⟩⟩, ?_⟩
    exact (RdrX.step s0 (.inl rfl) hG.keeps).trans ((Keeps.refl (fun _ => False) _).alloc _) (fun _ _ h => h.elim)
  have J0 := hI.keeps hG0.keeps (hR.apart hI (by decide) (by decide) (by decide))
  obtain ⟨R1, hT1, hF0⟩ := hG0.on
  have ap0 := hT1.apart J0 (by decide) (by decide) (by decide)
  have kk0 : Keeps (fun i => i = g) v0 (v0.setCell ⟨g, 0, none⟩ (.int .u64 p0)) := (Keeps.refl (fun i => i = g) v0).setCell (.inl rfl) _
  have hR1 := hT1.keeps kk0 (fun h => ap0 (.inl h.symm)) (fun h => ap0 (.inr (.inl h.symm))) (fun i hi h => ap0 (.inr (.inr (h ▸ hi)))) (fun i hi h => hD (h ▸ hi))
  have hI1 : Whole (v0.setCell ⟨g, 0, none⟩ (.int .u64 p0)) g 74 #[.int .u64 p0, .int .u64 0, .int .u64 0, .int .u64 0, .int .u64 0, .int .u64 0] := J0.put 0 (.int .u64 p0)
  have s1 := RdrX.store (RdrX.step s0 (.inl rfl) hG0.keeps) kk0
  have hS1 := fresh_trans (w := w) (R := R) (R1 := R) (.inl rfl) hF0 (s0.size)
  have c0 : v0.cell? ⟨g, 0, none⟩ = some (.int .u64 0) := J0.cell 0
  have f0 := J0.frozen 0
  have gl0 := J0.lt
  rw [E1.out] at hR1
  go_wp2_with (first | (go_at_call 111; go_in) | (go_at_call 113; go_in))
  refine (uv_step _ base rb bb D R1 p1 m1 d2 H1.out hR1).mono ?_
  intro e v1 hst
  rcases hst with ⟨m2, hm2, rfl, hG1⟩ | ⟨hm, z, l, rfl, ⟨a, rfl⟩, hG⟩
  case inr =>
    go_wp2_with (go_at_call 89; go_in)
    go_ret
    refine ⟨.inr ⟨by omega, _, rfl, ⟨_, rfl⟩⟩, ?_⟩
    exact (RdrX.step s1 hS1 hG.keeps).trans ((Keeps.refl (fun _ => False) _).alloc _) (fun _ _ h => h.elim)
  have J1 := hI1.keeps hG1.keeps (hR1.apart hI1 (by decide) (by decide) (by decide))
  obtain ⟨R2, hT2, hF1⟩ := hG1.on
  have ap1 := hT2.apart J1 (by decide) (by decide) (by decide)
  have kk1 : Keeps (fun i => i = g) v1 (v1.setCell ⟨g, 1, none⟩ (.int .u64 p1)) := (Keeps.refl (fun i => i = g) v1).setCell (.inl rfl) _
  have hR2 := hT2.keeps kk1 (fun h => ap1 (.inl h.symm)) (fun h => ap1 (.inr (.inl h.symm))) (fun i hi h => ap1 (.inr (.inr (h ▸ hi)))) (fun i hi h => hD (h ▸ hi))
  have hI2 : Whole (v1.setCell ⟨g, 1, none⟩ (.int .u64 p1)) g 74 #[.int .u64 p0, .int .u64 p1, .int .u64 0, .int .u64 0, .int .u64 0, .int .u64 0] := J1.put 1 (.int .u64 p1)
  have s2 := RdrX.store (RdrX.step s1 hS1 hG1.keeps) kk1
  have hS2 := fresh_trans (w := w) (R := R) (R1 := R1) hS1 hF1 (s1.size)
  have c1 : v1.cell? ⟨g, 1, none⟩ = some (.int .u64 0) := J1.cell 1
  have f1 := J1.frozen 1
  have gl1 := J1.lt
  rw [E2.out] at hR2
  go_wp2_with (first | (go_at_call 111; go_in) | (go_at_call 113; go_in))
  refine (uv_step _ base rb bb D R2 p2 m2 rest H2.out hR2).mono ?_
  intro e v2 hst
  rcases hst with ⟨m3, hm3, rfl, hG2⟩ | ⟨hm, z, l, rfl, ⟨a, rfl⟩, hG⟩
  case inr =>
    go_wp2_with (go_at_call 89; go_in)
    go_ret
    refine ⟨.inr ⟨by omega, _, rfl, ⟨_, rfl⟩⟩, ?_⟩
    exact (RdrX.step s2 hS2 hG.keeps).trans ((Keeps.refl (fun _ => False) _).alloc _) (fun _ _ h => h.elim)
  have J2 := hI2.keeps hG2.keeps (hR2.apart hI2 (by decide) (by decide) (by decide))
  obtain ⟨R3, hT3, hF2⟩ := hG2.on
  have ap2 := hT3.apart J2 (by decide) (by decide) (by decide)
  have kk2 : Keeps (fun i => i = g) v2 (v2.setCell ⟨g, 2, none⟩ (.int .u64 p2)) := (Keeps.refl (fun i => i = g) v2).setCell (.inl rfl) _
  have hR3 := hT3.keeps kk2 (fun h => ap2 (.inl h.symm)) (fun h => ap2 (.inr (.inl h.symm))) (fun i hi h => ap2 (.inr (.inr (h ▸ hi)))) (fun i hi h => hD (h ▸ hi))
  have hI3 : Whole (v2.setCell ⟨g, 2, none⟩ (.int .u64 p2)) g 74 #[.int .u64 p0, .int .u64 p1, .int .u64 p2, .int .u64 0, .int .u64 0, .int .u64 0] := J2.put 2 (.int .u64 p2)
  have s3 := RdrX.store (RdrX.step s2 hS2 hG2.keeps) kk2
  have hS3 := fresh_trans (w := w) (R := R) (R1 := R2) hS2 hF2 (s2.size)
  have c2 : v2.cell? ⟨g, 2, none⟩ = some (.int .u64 0) := J2.cell 2
  have f2 := J2.frozen 2
  have gl2 := J2.lt
  go_wp2_with (first | (go_at_call 111; go_in) | (go_at_call 113; go_in))
  go_ret
  exact ⟨.inl ⟨m3, by omega, rfl, ⟨R3, hR3⟩, hI3⟩, s3⟩

set_option maxRecDepth 100000 in
set_option maxHeartbeats 2000000 in
theorem pgDecode5 (w : World) (base rb bb g : Nat) (D R : Option Nat) (v : Int) (hv : 54420 ≤ v) (hv2 : v < 54460) (p0 p1 p2 p3 p4 m : Nat) (h0 : p0 < 18446744073709551616) (h1 : p1 < 18446744073709551616) (h2 : p2 < 18446744073709551616) (h3 : p3 < 18446744073709551616) (h4 : p4 < 18446744073709551616) (d0 : List UInt8) (d1 : List UInt8) (d2 : List UInt8) (d3 : List UInt8) (d4 : List UInt8) (rest : List UInt8) (e0 : d0 = Lib.uvarint p0 ++ d1) (e1 : d1 = Lib.uvarint p1 ++ d2) (e2 : d2 = Lib.uvarint p2 ++ d3) (e3 : d3 = Lib.uvarint p3 ++ d4) (e4 : d4 = Lib.uvarint p4 ++ rest)
    (hI : Whole w g 74 #[.int .u64 0, .int .u64 0, .int .u64 0, .int .u64 0, .int .u64 0, .int .u64 0]) (hD : D ≠ some g) (hR : RdrOn w base rb bb D R (d0.take m)) :
    Calls Try.prog 114 #[.pointer (some ⟨g, 0, none⟩), .pointer (some ⟨rb, 0, none⟩), .int .i64 v] w fun e w' => PgEnd w base rb bb g D R #[.int .u64 p0, .int .u64 p1, .int .u64 p2, .int .u64 p3, .int .u64 p4, .int .u64 0] ((Lib.uvarint p0).length + (Lib.uvarint p1).length + (Lib.uvarint p2).length + (Lib.uvarint p3).length + (Lib.uvarint p4).length) m rest e w' := by
  have hlt := hI.lt
  have H0 := Lib.hid h0
  clear h0
  have E0 := Lib.hid e0
  clear e0
  have H1 := Lib.hid h1
  clear h1
  have E1 := Lib.hid e1
  clear e1
  have H2 := Lib.hid h2
  clear h2
  have E2 := Lib.hid e2
  clear e2
  have H3 := Lib.hid h3
  clear h3
  have E3 := Lib.hid e3
  clear e3
  have H4 := Lib.hid h4
  clear h4
  have E4 := Lib.hid e4
  clear e4
  have i1 : (54420 : Int) ≤ v := by omega
  have i2 : ¬ (54460 : Int) ≤ v := by omega
  clear hv hv2
  rw [E0.out] at hR
  go_enter Try.func114, Try.ntmps114
  have s0 := Keeps.refl (RdrX (fun i => i = g) rb bb R) w
  go_wp2_with (first | (go_at_call 111; go_in) | (go_at_call 113; go_in))
  refine (uv_step _ base rb bb D R p0 m d1 H0.out hR).mono ?_
  intro e v0 hst
  rcases hst with ⟨m1, hm1, rfl, hG0⟩ | ⟨hm, z, l, rfl, ⟨a, rfl⟩, hG⟩
  case inr =>
    go_wp2_with (go_at_call 89; go_in)
    go_ret
    refine ⟨.inr ⟨by omega, _, rfl, ⟨_, rfl⟩⟩, ?_⟩
    exact (RdrX.step s0 (.inl rfl) hG.keeps).trans ((Keeps.refl (fun _ => False) _).alloc _) (fun _ _ h => h.elim)
  have J0 := hI.keeps hG0.keeps (hR.apart hI (by decide) (by decide) (by decide))
  obtain ⟨R1, hT1, hF0⟩ := hG0.on
  have ap0 := hT1.apart J0 (by decide) (by decide) (by decide)
  have kk0 : Keeps (fun i => i = g) v0 (v0.setCell ⟨g, 0, none⟩ (.int .u64 p0)) := (Keeps.refl (fun i => i = g) v0).setCell (.inl rfl) _
  have hR1 := hT1.keeps kk0 (fun h => ap0 (.inl h.symm)) (fun h => ap0 (.inr (.inl h.symm))) (fun i hi h => ap0 (.inr (.inr (h ▸ hi)))) (fun i hi h => hD (h ▸ hi))
  have hI1 : Whole (v0.setCell ⟨g, 0, none⟩ (.int .u64 p0)) g 74 #[.int .u64 p0, .int .u64 0, .int .u64 0, .int .u64 0, .int .u64 0, .int .u64 0] := J0.put 0 (.int .u64 p0)
  have s1 := RdrX.store (RdrX.step s0 (.inl rfl) hG0.keeps) kk0
  have hS1 := fresh_trans (w := w) (R := R) (R1 := R) (.inl rfl) hF0 (s0.size)
  have c0 : v0.cell? ⟨g, 0, none⟩ = some (.int .u64 0) := J0.cell 0
  have f0 := J0.frozen 0
  have gl0 := J0.lt
  rw [E1.out] at hR1
  go_wp2_with (first | (go_at_call 111; go_in) | (go_at_call 113; go_in))
  refine (uv_step _ base rb bb D R1 p1 m1 d2 H1.out hR1).mono ?_
  intro e v1 hst
  rcases hst with ⟨m2, hm2, rfl, hG1⟩ | ⟨hm, z, l, rfl, ⟨a, rfl⟩, hG⟩
  case inr =>
    go_wp2_with (go_at_call 89; go_in)
    go_ret
    refine ⟨.inr ⟨by omega, _, rfl, ⟨_, rfl⟩⟩, ?_⟩
    exact (RdrX.step s1 hS1 hG.keeps).trans ((Keeps.refl (fun _ => False) _).alloc _) (fun _ _ h => h.elim)
  have J1 := hI1.keeps hG1.keeps (hR1.apart hI1 (by decide) (by decide) (by decide))
  obtain ⟨R2, hT2, hF1⟩ := hG1.on
  have ap1 := hT2.apart J1 (by decide) (by decide) (by decide)
  have kk1 : Keeps (fun i => i = g) v1 (v1.setCell ⟨g, 1, none⟩ (.int .u64 p1)) := (Keeps.refl (fun i => i = g) v1).setCell (.inl rfl) _
  have hR2 := hT2.keeps kk1 (fun h => ap1 (.inl h.symm)) (fun h => ap1 (.inr (.inl h.symm))) (fun i hi h => ap1 (.inr (.inr (h ▸ hi)))) (fun i hi h => hD (h ▸ hi))
  have hI2 : Whole (v1.setCell ⟨g, 1, none⟩ (.int .u64 p1)) g 74 #[.int .u64 p0, .int .u64 p1, .int .u64 0, .int .u64 0, .int .u64 0, .int .u64 0] := J1.put 1 (.int .u64 p1)
  have s2 := RdrX.store (RdrX.step s1 hS1 hG1.keeps) kk1
  have hS2 := fresh_trans (w := w) (R := R) (R1 := R1) hS1 hF1 (s1.size)
  have c1 : v1.cell? ⟨g, 1, none⟩ = some (.int .u64 0) := J1.cell 1
  have f1 := J1.frozen 1
  have gl1 := J1.lt
  rw [E2.out] at hR2
  go_wp2_with (first | (go_at_call 111; go_in) | (go_at_call 113; go_in))
  refine (uv_step _ base rb bb D R2 p2 m2 d3 H2.out hR2).mono ?_
  intro e v2 hst
  rcases hst with ⟨m3, hm3, rfl, hG2⟩ | ⟨hm, z, l, rfl, ⟨a, rfl⟩, hG⟩
  case inr =>
    go_wp2_with (go_at_call 89; go_in)
    go_ret
    refine ⟨.inr ⟨by omega, _, rfl, ⟨_, rfl⟩⟩, ?_⟩
    exact (RdrX.step s2 hS2 hG.keeps).trans ((Keeps.refl (fun _ => False) _).alloc _) (fun _ _ h => h.elim)
  have J2 := hI2.keeps hG2.keeps (hR2.apart hI2 (by decide) (by decide) (by decide))
  obtain ⟨R3, hT3, hF2⟩ := hG2.on
  have ap2 := hT3.apart J2 (by decide) (by decide) (by decide)
  have kk2 : Keeps (fun i => i = g) v2 (v2.setCell ⟨g, 2, none⟩ (.int .u64 p2)) := (Keeps.refl (fun i => i = g) v2).setCell (.inl rfl) _
  have hR3 := hT3.keeps kk2 (fun h => ap2 (.inl h.symm)) (fun h => ap2 (.inr (.inl h.symm))) (fun i hi h => ap2 (.inr (.inr (h ▸ hi)))) (fun i hi h => hD (h ▸ hi))
  have hI3 : Whole (v2.setCell ⟨g, 2, none⟩ (.int .u64 p2)) g 74 #[.int .u64 p0, .int .u64 p1, .int .u64 p2, .int .u64 0, .int .u64 0, .int .u64 0] := J2.put 2 (.int .u64 p2)
  have s3 := RdrX.store (RdrX.step s2 hS2 hG2.keeps) kk2
  have hS3 := fresh_trans (w := w) (R := R) (R1 := R2) hS2 hF2 (s2.size)
  have c2 : v2.cell? ⟨g, 2, none⟩ = some (.int .u64 0) := J2.cell 2
  have f2 := J2.frozen 2
  have gl2 := J2.lt
  rw [E3.out] at hR3
  go_wp2_with (first | (go_at_call 111; go_in) | (go_at_call 113; go_in))
  refine (uv_step _ base rb bb D R3 p3 m3 d4 H3.out hR3).mono ?_
  intro e v3 hst
  rcases hst with ⟨m4, hm4, rfl, hG3⟩ | ⟨hm, z, l, rfl, ⟨a, rfl⟩, hG⟩
  case inr =>
    go_wp2_with (go_at_call 89; go_in)
    go_ret
    refine ⟨.inr ⟨by omega, _, rfl, ⟨_, rfl⟩⟩, ?_⟩
    exact (RdrX.step s3 hS3 hG.keeps).trans ((Keeps.refl (fun _ => False) _).alloc _) (fun _ _ h => h.elim)
  have J3 := hI3.keeps hG3.keeps (hR3.apart hI3 (by decide) (by decide) (by decide))
  obtain ⟨R4, hT4, hF3⟩ := hG3.on
  have ap3 := hT4.apart J3 (by decide) (by decide) (by decide)
  have kk3 : Keeps (fun i => i = g) v3 (v3.setCell ⟨g, 3, none⟩ (.int .u64 p3)) := (Keeps.refl (fun i => i = g) v3).setCell (.inl rfl) _
  have hR4 := hT4.keeps kk3 (fun h => ap3 (.inl h.symm)) (fun h => ap3 (.inr (.inl h.symm))) (fun i hi h => ap3 (.inr (.inr (h ▸ hi)))) (fun i hi h => hD (h ▸ hi))
  have hI4 : Whole (v3.setCell ⟨g, 3, none⟩ (.int .u64 p3)) g 74 #[.int .u64 p0, .int .u64 p1, .int .u64 p2, .int .u64 p3, .int .u64 0, .int .u64 0] := J3.put 3 (.int .u64 p3)
  have s4 := RdrX.store (RdrX.step s3 hS3 hG3.keeps) kk3
  have hS4 := fresh_trans (w := w) (R := R) (R1 := R3) hS3 hF3 (s3.size)
  have c3 : v3.cell? ⟨g, 3, none⟩ = some (.int .u64 0) := J3.cell 3
  have f3 := J3.frozen 3
  have gl3 := J3.lt
  rw [E4.out] at hR4
  go_wp2_with (first | (go_at_call 111; go_in) | (go_at_call 113; go_in))
  refine (uv_step _ base rb bb D R4 p4 m4 rest H4.out hR4).mono ?_
  intro e v4 hst
  rcases hst with ⟨m5, hm5, rfl, hG4⟩ | ⟨hm, z, l, rfl, ⟨a, rfl⟩, hG⟩
  case inr =>
    go_wp2_with (go_at_call 89; go_in)
    go_ret
    refine ⟨.inr ⟨by omega, _, rfl, ⟨_, rfl⟩⟩, ?_⟩
    exact (RdrX.step s4 hS4 hG.keeps).trans ((Keeps.refl (fun _ => False) _).alloc _) (fun _ _ h => h.elim)
  have J4 := hI4.keeps hG4.keeps (hR4.apart hI4 (by decide) (by decide) (by decide))
  obtain ⟨R5, hT5, hF4⟩ := hG4.on
  have ap4 := hT5.apart J4 (by decide) (by decide) (by decide)
  have kk4 : Keeps (fun i => i = g) v4 (v4.setCell ⟨g, 4, none⟩ (.int .u64 p4)) := (Keeps.refl (fun i => i = g) v4).setCell (.inl rfl) _
  have hR5 := hT5.keeps kk4 (fun h => ap4 (.inl h.symm)) (fun h => ap4 (.inr (.inl h.symm))) (fun i hi h => ap4 (.inr (.inr (h ▸ hi)))) (fun i hi h => hD (h ▸ hi))
  have hI5 : Whole (v4.setCell ⟨g, 4, none⟩ (.int .u64 p4)) g 74 #[.int .u64 p0, .int .u64 p1, .int .u64 p2, .int .u64 p3, .int .u64 p4, .int .u64 0] := J4.put 4 (.int .u64 p4)
  have s5 := RdrX.store (RdrX.step s4 hS4 hG4.keeps) kk4
  have hS5 := fresh_trans (w := w) (R := R) (R1 := R4) hS4 hF4 (s4.size)
  have c4 : v4.cell? ⟨g, 4, none⟩ = some (.int .u64 0) := J4.cell 4
  have f4 := J4.frozen 4
  have gl4 := J4.lt
  go_wp2_with (first | (go_at_call 111; go_in) | (go_at_call 113; go_in))
  go_ret
  exact ⟨.inl ⟨m5, by omega, rfl, ⟨R5, hR5⟩, hI5⟩, s5⟩

set_option maxRecDepth 100000 in
set_option maxHeartbeats 2000000 in
theorem pgDecode6 (w : World) (base rb bb g : Nat) (D R : Option Nat) (v : Int) (hv : 54460 ≤ v) (p0 p1 p2 p3 p4 p5 m : Nat) (h0 : p0 < 18446744073709551616) (h1 : p1 < 18446744073709551616) (h2 : p2 < 18446744073709551616) (h3 : p3 < 18446744073709551616) (h4 : p4 < 18446744073709551616) (h5 : p5 < 18446744073709551616) (d0 : List UInt8) (d1 : List UInt8) (d2 : List UInt8) (d3 : List UInt8) (d4 : List UInt8) (d5 : List UInt8) (rest : List UInt8) (e0 : d0 = Lib.uvarint p0 ++ d1) (e1 : d1 = Lib.uvarint p1 ++ d2) (e2 : d2 = Lib.uvarint p2 ++ d3) (e3 : d3 = Lib.uvarint p3 ++ d4) (e4 : d4 = Lib.uvarint p4 ++ d5) (e5 : d5 = Lib.uvarint p5 ++ rest)
    (hI : Whole w g 74 #[.int .u64 0, .int .u64 0, .int .u64 0, .int .u64 0, .int .u64 0, .int .u64 0]) (hD : D ≠ some g) (hR : RdrOn w base rb bb D R (d0.take m)) :
    Calls Try.prog 114 #[.pointer (some ⟨g, 0, none⟩), .pointer (some ⟨rb, 0, none⟩), .int .i64 v] w fun e w' => PgEnd w base rb bb g D R #[.int .u64 p0, .int .u64 p1, .int .u64 p2, .int .u64 p3, .int .u64 p4, .int .u64 p5] ((Lib.uvarint p0).length + (Lib.uvarint p1).length + (Lib.uvarint p2).length + (Lib.uvarint p3).length + (Lib.uvarint p4).length + (Lib.uvarint p5).length) m rest e w' := by
  have hlt := hI.lt
  have H0 := Lib.hid h0
  clear h0
  have E0 := Lib.hid e0
  clear e0
  have H1 := Lib.hid h1
  clear h1
  have E1 := Lib.hid e1
  clear e1
  have H2 := Lib.hid h2
  clear h2
  have E2 := Lib.hid e2
  clear e2
  have H3 := Lib.hid h3
  clear h3
  have E3 := Lib.hid e3
  clear e3
  have H4 := Lib.hid h4
  clear h4
  have E4 := Lib.hid e4
  clear e4
  have H5 := Lib.hid h5
  clear h5
  have E5 := Lib.hid e5
  clear e5
  have i1 : (54420 : Int) ≤ v := by omega
  have i2 : (54460 : Int) ≤ v := by omega
  clear hv
  rw [E0.out] at hR
  go_enter Try.func114, Try.ntmps114
  have s0 := Keeps.refl (RdrX (fun i => i = g) rb bb R) w
  go_wp2_with (first | (go_at_call 111; go_in) | (go_at_call 113; go_in))
  refine (uv_step _ base rb bb D R p0 m d1 H0.out hR).mono ?_
  intro e v0 hst
  rcases hst with ⟨m1, hm1, rfl, hG0⟩ | ⟨hm, z, l, rfl, ⟨a, rfl⟩, hG⟩
  case inr =>
    go_wp2_with (go_at_call 89; go_in)
    go_ret
    refine ⟨.inr ⟨by omega, _, rfl, ⟨_, rfl⟩⟩, ?_⟩
    exact (RdrX.step s0 (.inl rfl) hG.keeps).trans ((Keeps.refl (fun _ => False) _).alloc _) (fun _ _ h => h.elim)
  have J0 := hI.keeps hG0.keeps (hR.apart hI (by decide) (by decide) (by decide))
  obtain ⟨R1, hT1, hF0⟩ := hG0.on
  have ap0 := hT1.apart J0 (by decide) (by decide) (by decide)
  have kk0 : Keeps (fun i => i = g) v0 (v0.setCell ⟨g, 0, none⟩ (.int .u64 p0)) := (Keeps.refl (fun i => i = g) v0).setCell (.inl rfl) _
  have hR1 := hT1.keeps kk0 (fun h => ap0 (.inl h.symm)) (fun h => ap0 (.inr (.inl h.symm))) (fun i hi h => ap0 (.inr (.inr (h ▸ hi)))) (fun i hi h => hD (h ▸ hi))
  have hI1 : Whole (v0.setCell ⟨g, 0, none⟩ (.int .u64 p0)) g 74 #[.int .u64 p0, .int .u64 0, .int .u64 0, .int .u64 0, .int .u64 0, .int .u64 0] := J0.put 0 (.int .u64 p0)
  have s1 := RdrX.store (RdrX.step s0 (.inl rfl) hG0.keeps) kk0
  have hS1 := fresh_trans (w := w) (R := R) (R1 := R) (.inl rfl) hF0 (s0.size)
  have c0 : v0.cell? ⟨g, 0, none⟩ = some (.int .u64 0) := J0.cell 0
  have f0 := J0.frozen 0
  have gl0 := J0.lt
  rw [E1.out] at hR1
  go_wp2_with (first | (go_at_call 111; go_in) | (go_at_call 113; go_in))
  refine (uv_step _ base rb bb D R1 p1 m1 d2 H1.out hR1).mono ?_
  intro e v1 hst
  rcases hst with ⟨m2, hm2, rfl, hG1⟩ | ⟨hm, z, l, rfl, ⟨a, rfl⟩, hG⟩
  case inr =>
    go_wp2_with (go_at_call 89; go_in)
    go_ret
    refine ⟨.inr ⟨by omega, _, rfl, ⟨_, rfl⟩⟩, ?_⟩
    exact (RdrX.step s1 hS1 hG.keeps).trans ((Keeps.refl (fun _ => False) _).alloc _) (fun _ _ h => h.elim)
  have J1 := hI1.keeps hG1.keeps (hR1.apart hI1 (by decide) (by decide) (by decide))
  obtain ⟨R2, hT2, hF1⟩ := hG1.on
  have ap1 := hT2.apart J1 (by decide) (by decide) (by decide)
  have kk1 : Keeps (fun i => i = g) v1 (v1.setCell ⟨g, 1, none⟩ (.int .u64 p1)) := (Keeps.refl (fun i => i = g) v1).setCell (.inl rfl) _
  have hR2 := hT2.keeps kk1 (fun h => ap1 (.inl h.symm)) (fun h => ap1 (.inr (.inl h.symm))) (fun i hi h => ap1 (.inr (.inr (h ▸ hi)))) (fun i hi h => hD (h ▸ hi))
  have hI2 : Whole (v1.setCell ⟨g, 1, none⟩ (.int .u64 p1)) g 74 #[.int .u64 p0, .int .u64 p1, .int .u64 0, .int .u64 0, .int .u64 0, .int .u64 0] := J1.put 1 (.int .u64 p1)
  have s2 := RdrX.store (RdrX.step s1 hS1 hG1.keeps) kk1
  have hS2 := fresh_trans (w := w) (R := R) (R1 := R1) hS1 hF1 (s1.size)
  have c1 : v1.cell? ⟨g, 1, none⟩ = some (.int .u64 0) := J1.cell 1
  have f1 := J1.frozen 1
  have gl1 := J1.lt
  rw [E2.out] at hR2
  go_wp2_with (first | (go_at_call 111; go_in) | (go_at_call 113; go_in))
  refine (uv_step _ base rb bb D R2 p2 m2 d3 H2.out hR2).mono ?_
  intro e v2 hst
  rcases hst with ⟨m3, hm3, rfl, hG2⟩ | ⟨hm, z, l, rfl, ⟨a, rfl⟩, hG⟩
  case inr =>
    go_wp2_with (go_at_call 89; go_in)
    go_ret
    refine ⟨.inr ⟨by omega, _, rfl, ⟨_, rfl⟩⟩, ?_⟩
    exact (RdrX.step s2 hS2 hG.keeps).trans ((Keeps.refl (fun _ => False) _).alloc _) (fun _ _ h => h.elim)
  have J2 := hI2.keeps hG2.keeps (hR2.apart hI2 (by decide) (by decide) (by decide))
  obtain ⟨R3, hT3, hF2⟩ := hG2.on
  have ap2 := hT3.apart J2 (by decide) (by decide) (by decide)
  have kk2 : Keeps (fun i => i = g) v2 (v2.setCell ⟨g, 2, none⟩ (.int .u64 p2)) := (Keeps.refl (fun i => i = g) v2).setCell (.inl rfl) _
  have hR3 := hT3.keeps kk2 (fun h => ap2 (.inl h.symm)) (fun h => ap2 (.inr (.inl h.symm))) (fun i hi h => ap2 (.inr (.inr (h ▸ hi)))) (fun i hi h => hD (h ▸ hi))
  have hI3 : Whole (v2.setCell ⟨g, 2, none⟩ (.int .u64 p2)) g 74 #[.int .u64 p0, .int .u64 p1, .int .u64 p2, .int .u64 0, .int .u64 0, .int .u64 0] := J2.put 2 (.int .u64 p2)
  have s3 := RdrX.store (RdrX.step s2 hS2 hG2.keeps) kk2
  have hS3 := fresh_trans (w := w) (R := R) (R1 := R2) hS2 hF2 (s2.size)
  have c2 : v2.cell? ⟨g, 2, none⟩ = some (.int .u64 0) := J2.cell 2
  have f2 := J2.frozen 2
  have gl2 := J2.lt
  rw [E3.out] at hR3
  go_wp2_with (first | (go_at_call 111; go_in) | (go_at_call 113; go_in))
  refine (uv_step _ base rb bb D R3 p3 m3 d4 H3.out hR3).mono ?_
  intro e v3 hst
  rcases hst with ⟨m4, hm4, rfl, hG3⟩ | ⟨hm, z, l, rfl, ⟨a, rfl⟩, hG⟩
  case inr =>
    go_wp2_with (go_at_call 89; go_in)
    go_ret
    refine ⟨.inr ⟨by omega, _, rfl, ⟨_, rfl⟩⟩, ?_⟩
    exact (RdrX.step s3 hS3 hG.keeps).trans ((Keeps.refl (fun _ => False) _).alloc _) (fun _ _ h => h.elim)
  have J3 := hI3.keeps hG3.keeps (hR3.apart hI3 (by decide) (by decide) (by decide))
  obtain ⟨R4, hT4, hF3⟩ := hG3.on
  have ap3 := hT4.apart J3 (by decide) (by decide) (by decide)
  have kk3 : Keeps (fun i => i = g) v3 (v3.setCell ⟨g, 3, none⟩ (.int .u64 p3)) := (Keeps.refl (fun i => i = g) v3).setCell (.inl rfl) _
  have hR4 := hT4.keeps kk3 (fun h => ap3 (.inl h.symm)) (fun h => ap3 (.inr (.inl h.symm))) (fun i hi h => ap3 (.inr (.inr (h ▸ hi)))) (fun i hi h => hD (h ▸ hi))
  have hI4 : Whole (v3.setCell ⟨g, 3, none⟩ (.int .u64 p3)) g 74 #[.int .u64 p0, .int .u64 p1, .int .u64 p2, .int .u64 p3, .int .u64 0, .int .u64 0] := J3.put 3 (.int .u64 p3)
  have s4 := RdrX.store (RdrX.step s3 hS3 hG3.keeps) kk3
  have hS4 := fresh_trans (w := w) (R := R) (R1 := R3) hS3 hF3 (s3.size)
  have c3 : v3.cell? ⟨g, 3, none⟩ = some (.int .u64 0) := J3.cell 3
  have f3 := J3.frozen 3
  have gl3 := J3.lt
  rw [E4.out] at hR4
  go_wp2_with (first | (go_at_call 111; go_in) | (go_at_call 113; go_in))
  refine (uv_step _ base rb bb D R4 p4 m4 d5 H4.out hR4).mono ?_
  intro e v4 hst
  rcases hst with ⟨m5, hm5, rfl, hG4⟩ | ⟨hm, z, l, rfl, ⟨a, rfl⟩, hG⟩
  case inr =>
    go_wp2_with (go_at_call 89; go_in)
    go_ret
    refine ⟨.inr ⟨by omega, _, rfl, ⟨_, rfl⟩⟩, ?_⟩
    exact (RdrX.step s4 hS4 hG.keeps).trans ((Keeps.refl (fun _ => False) _).alloc _) (fun _ _ h => h.elim)
  have J4 := hI4.keeps hG4.keeps (hR4.apart hI4 (by decide) (by decide) (by decide))
  obtain ⟨R5, hT5, hF4⟩ := hG4.on
  have ap4 := hT5.apart J4 (by decide) (by decide) (by decide)
  have kk4 : Keeps (fun i => i = g) v4 (v4.setCell ⟨g, 4, none⟩ (.int .u64 p4)) := (Keeps.refl (fun i => i = g) v4).setCell (.inl rfl) _
  have hR5 := hT5.keeps kk4 (fun h => ap4 (.inl h.symm)) (fun h => ap4 (.inr (.inl h.symm))) (fun i hi h => ap4 (.inr (.inr (h ▸ hi)))) (fun i hi h => hD (h ▸ hi))
  have hI5 : Whole (v4.setCell ⟨g, 4, none⟩ (.int .u64 p4)) g 74 #[.int .u64 p0, .int .u64 p1, .int .u64 p2, .int .u64 p3, .int .u64 p4, .int .u64 0] := J4.put 4 (.int .u64 p4)
  have s5 := RdrX.store (RdrX.step s4 hS4 hG4.keeps) kk4
  have hS5 := fresh_trans (w := w) (R := R) (R1 := R4) hS4 hF4 (s4.size)
  have c4 : v4.cell? ⟨g, 4, none⟩ = some (.int .u64 0) := J4.cell 4
  have f4 := J4.frozen 4
  have gl4 := J4.lt
  rw [E5.out] at hR5
  go_wp2_with (first | (go_at_call 111; go_in) | (go_at_call 113; go_in))
  refine (uv_step _ base rb bb D R5 p5 m5 rest H5.out hR5).mono ?_
  intro e v5 hst
  rcases hst with ⟨m6, hm6, rfl, hG5⟩ | ⟨hm, z, l, rfl, ⟨a, rfl⟩, hG⟩
  case inr =>
    go_wp2_with (go_at_call 89; go_in)
    go_ret
    refine ⟨.inr ⟨by omega, _, rfl, ⟨_, rfl⟩⟩, ?_⟩
    exact (RdrX.step s5 hS5 hG.keeps).trans ((Keeps.refl (fun _ => False) _).alloc _) (fun _ _ h => h.elim)
  have J5 := hI5.keeps hG5.keeps (hR5.apart hI5 (by decide) (by decide) (by decide))
  obtain ⟨R6, hT6, hF5⟩ := hG5.on
  have ap5 := hT6.apart J5 (by decide) (by decide) (by decide)
  have kk5 : Keeps (fun i => i = g) v5 (v5.setCell ⟨g, 5, none⟩ (.int .u64 p5)) := (Keeps.refl (fun i => i = g) v5).setCell (.inl rfl) _
  have hR6 := hT6.keeps kk5 (fun h => ap5 (.inl h.symm)) (fun h => ap5 (.inr (.inl h.symm))) (fun i hi h => ap5 (.inr (.inr (h ▸ hi)))) (fun i hi h => hD (h ▸ hi))
  have hI6 : Whole (v5.setCell ⟨g, 5, none⟩ (.int .u64 p5)) g 74 #[.int .u64 p0, .int .u64 p1, .int .u64 p2, .int .u64 p3, .int .u64 p4, .int .u64 p5] := J5.put 5 (.int .u64 p5)
  have s6 := RdrX.store (RdrX.step s5 hS5 hG5.keeps) kk5
  have hS6 := fresh_trans (w := w) (R := R) (R1 := R5) hS5 hF5 (s5.size)
  have c5 : v5.cell? ⟨g, 5, none⟩ = some (.int .u64 0) := J5.cell 5
  have f5 := J5.frozen 5
  have gl5 := J5.lt
  go_wp2_with (first | (go_at_call 111; go_in) | (go_at_call 113; go_in))
  go_ret
  exact ⟨.inl ⟨m6, by omega, rfl, ⟨R6, hR6⟩, hI6⟩, s6⟩
end Go.Proofs.Ytlemmkcofmofiaa
