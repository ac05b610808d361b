/- The client's hello read from bytes that may be cut off. Conditions: short strings, numbers of 31 bits. -/
import Derived.Test.YtgnlfbekkddmiaaStrR
import Derived.Test.YtgnlfbekkddmiaaGotC
namespace Go.Proofs.Ytgnlfbekkddmiaa
open Go.RowKit Go.Lib
set_option linter.unusedVariables false
def IntStep (w : World) (base rb bb : Nat) (D R : Option Nat) (x : Nat) (d : List UInt8) (m : Nat) (e : Ending) (w' : World) : Prop :=
  (∃ m', m = (Lib.uvarint x).length + m' ∧ e = .returned (.tuple #[.int .i64 x, .nilIface]) ∧ RdrGo w w' base rb bb D R (d.take m')) ∨
  (m < (Lib.uvarint x).length ∧ ∃ v l, e = .returned (.tuple #[.int .i64 0, v]) ∧ IsErr v ∧ RdrGo w w' base rb bb D R l)
set_option maxRecDepth 100000 in
set_option maxHeartbeats 400000 in
theorem intStep (w : World) (base rb bb : Nat) (D R : Option Nat) (x m : Nat) (d : List UInt8) (hx : x < 2147483648) (hR : RdrOn w base rb bb D R ((Lib.uvarint x ++ d).take m)) :
    Calls Try.prog 48 #[.pointer (some ⟨rb, 0, none⟩)] w fun e w' => IntStep w base rb bb D R x d m e w' := by
  have HS := Lib.hid (uv_step w base rb bb D R x m d (by omega) hR)
  have hx1 : (x : Int) ≤ 2147483647 := by omega
  have hx0 : (0 : Int) ≤ (x : Int) := by omega
  clear hx hR
  go_enter Try.func48, Try.ntmps48
  go_wp2_with fail
  refine HS.out.mono ?_
  intro e w1 hst
  rcases hst with ⟨m1, hm1, rfl, hG⟩ | ⟨hm, z, l, rfl, ⟨a, rfl⟩, hG⟩
  · go_wp2_with fail
    refine bodyPost_ret (results_tmp2 rfl _ _ _) rfl (.inl ⟨m1, hm1, rfl, hG⟩)
  · go_wp2_with (go_at_call 39; go_in)
    refine bodyPost_ret (results_tmp2 rfl _ _ _) rfl (.inr ⟨hm, _, l, rfl, ⟨_, rfl⟩, hG.after ((Keeps.refl (fun _ => False) _).alloc _)⟩)

/-- How the reading ends: m bytes of those that are L long were there. -/
def HelloEnd (w : World) (base rb bb g : Nat) (D R : Option Nat) (cs : Array Value) (L m : Nat) (rest : List UInt8) (e : Ending) (w' : World) : Prop :=
  ((∃ m', m = L + m' ∧ e = .returned .nilIface ∧ (∃ R', RdrOn w' base rb bb D R' (rest.take m')) ∧ Whole w' g 60 cs) ∨ (m < L ∧ ∃ v, e = .returned v ∧ IsErr v)) ∧ Keeps (RdrX (fun i => i = g) rb bb R) w w'

set_option maxRecDepth 100000 in
set_option maxHeartbeats 4000000 in
theorem helloDecode (w : World) (base rb bb g : Nat) (D R : Option Nat) (t0 : ByteArray) (x1 : Nat) (x2 : Nat) (x3 : Nat) (t4 : ByteArray) (t5 : ByteArray) (t6 : ByteArray) (m : Nat) (h0 : t0.size ≤ 1000) (h1 : x1 < 2147483648) (h2 : x2 < 2147483648) (h3 : x3 < 2147483648) (h4 : t4.size ≤ 1000) (h5 : t5.size ≤ 1000) (h6 : t6.size ≤ 1000) (d0 : List UInt8) (d1 : List UInt8) (d2 : List UInt8) (d3 : List UInt8) (d4 : List UInt8) (d5 : List UInt8) (d6 : List UInt8) (rest : List UInt8) (e0 : d0 = (strB t0) ++ d1) (e1 : d1 = (Lib.uvarint x1) ++ d2) (e2 : d2 = (Lib.uvarint x2) ++ d3) (e3 : d3 = (Lib.uvarint x3) ++ d4) (e4 : d4 = (strB t4) ++ d5) (e5 : d5 = (strB t5) ++ d6) (e6 : d6 = (strB t6) ++ rest)
    (hI : Whole w g 60 #[.string ⟨#[]⟩, .int .i64 0, .int .i64 0, .int .i64 0, .string ⟨#[]⟩, .string ⟨#[]⟩, .string ⟨#[]⟩]) (hD : D ≠ some g) (hR : RdrOn w base rb bb D R (d0.take m)) :
    Calls Try.prog 32 #[.pointer (some ⟨g, 0, none⟩), .pointer (some ⟨rb, 0, none⟩)] w fun e w' => HelloEnd w base rb bb g D R #[.string t0, .int .i64 x1, .int .i64 x2, .int .i64 x3, .string t4, .string t5, .string t6] ((strB t0).length + (Lib.uvarint x1).length + (Lib.uvarint x2).length + (Lib.uvarint x3).length + (strB t4).length + (strB t5).length + (strB t6).length) m rest e w' := by
  have hlt := hI.lt
  have H0 := Lib.hid h0
  clear h0
  have E0 := Lib.hid e0
  clear e0
  have H1 := Lib.hid h1
  clear h1
  have E1 := Lib.hid e1
  clear e1
  have H2 := Lib.hid h2
  clear h2
  have E2 := Lib.hid e2
  clear e2
  have H3 := Lib.hid h3
  clear h3
  have E3 := Lib.hid e3
  clear e3
  have H4 := Lib.hid h4
  clear h4
  have E4 := Lib.hid e4
  clear e4
  have H5 := Lib.hid h5
  clear h5
  have E5 := Lib.hid e5
  clear e5
  have H6 := Lib.hid h6
  clear h6
  have E6 := Lib.hid e6
  clear e6
  rw [E0.out] at hR
  generalize hL0 : (strB t0).length = n0 at *
  generalize hL1 : (Lib.uvarint x1).length = n1 at *
  generalize hL2 : (Lib.uvarint x2).length = n2 at *
  generalize hL3 : (Lib.uvarint x3).length = n3 at *
  generalize hL4 : (strB t4).length = n4 at *
  generalize hL5 : (strB t5).length = n5 at *
  generalize hL6 : (strB t6).length = n6 at *
  go_enter Try.func32, Try.ntmps32
  have s0 := Keeps.refl (RdrX (fun i => i = g) rb bb R) w
  go_wp2_with fail
  refine (strStep _ base rb bb D R t0 m d1 (by have := H0.out; omega) hR).mono ?_
  intro e v0 hst
  rcases hst with ⟨m1, hm1, rfl, hG0⟩ | ⟨hm, z, l, rfl, ⟨a, rfl⟩, hG⟩
  case inr =>
    rw [hL0] at hm
    go_wp2_with (go_at_call 39; go_in)
    go_ret
    refine ⟨.inr ⟨by omega, _, rfl, ⟨_, rfl⟩⟩, ?_⟩
    exact (RdrX.step s0 (.inl rfl) hG.keeps).trans ((Keeps.refl (fun _ => False) _).alloc _) (fun _ _ h => h.elim)
  rw [hL0] at hm1
  have J0 := hI.keeps hG0.keeps (hR.apart hI (by decide) (by decide) (by decide))
  obtain ⟨R1, hT1, hF0⟩ := hG0.on
  have ap0 := hT1.apart J0 (by decide) (by decide) (by decide)
  have kk0 : Keeps (fun i => i = g) v0 (v0.setCell ⟨g, 0, none⟩ (.string t0)) := (Keeps.refl (fun i => i = g) v0).setCell (.inl rfl) _
  have hR1 := hT1.keeps kk0 (fun h => ap0 (.inl h.symm)) (fun h => ap0 (.inr (.inl h.symm))) (fun i hi h => ap0 (.inr (.inr (h ▸ hi)))) (fun i hi h => hD (h ▸ hi))
  have hI1 : Whole (v0.setCell ⟨g, 0, none⟩ (.string t0)) g 60 #[.string t0, .int .i64 0, .int .i64 0, .int .i64 0, .string ⟨#[]⟩, .string ⟨#[]⟩, .string ⟨#[]⟩] := J0.put 0 (.string t0)
  have s1 := RdrX.store (RdrX.step s0 (.inl rfl) hG0.keeps) kk0
  have hS1 := fresh_trans (w := w) (R := R) (R1 := R) (.inl rfl) hF0 (s0.size)
  have c0 : v0.cell? ⟨g, 0, none⟩ = some (.string ⟨#[]⟩) := J0.cell 0
  have f0 := J0.frozen 0
  have gl0 := J0.lt
  rw [E1.out] at hR1
  go_wp2_with fail
  refine (intStep _ base rb bb D R1 x1 m1 d2 H1.out hR1).mono ?_
  intro e v1 hst
  rcases hst with ⟨m2, hm2, rfl, hG1⟩ | ⟨hm, z, l, rfl, ⟨a, rfl⟩, hG⟩
  case inr =>
    rw [hL1] at hm
    go_wp2_with (go_at_call 39; go_in)
    go_ret
    refine ⟨.inr ⟨by omega, _, rfl, ⟨_, rfl⟩⟩, ?_⟩
    exact (RdrX.step s1 hS1 hG.keeps).trans ((Keeps.refl (fun _ => False) _).alloc _) (fun _ _ h => h.elim)
  rw [hL1] at hm2
  have J1 := hI1.keeps hG1.keeps (hR1.apart hI1 (by decide) (by decide) (by decide))
  obtain ⟨R2, hT2, hF1⟩ := hG1.on
  have ap1 := hT2.apart J1 (by decide) (by decide) (by decide)
  have kk1 : Keeps (fun i => i = g) v1 (v1.setCell ⟨g, 1, none⟩ (.int .i64 x1)) := (Keeps.refl (fun i => i = g) v1).setCell (.inl rfl) _
  have hR2 := hT2.keeps kk1 (fun h => ap1 (.inl h.symm)) (fun h => ap1 (.inr (.inl h.symm))) (fun i hi h => ap1 (.inr (.inr (h ▸ hi)))) (fun i hi h => hD (h ▸ hi))
  have hI2 : Whole (v1.setCell ⟨g, 1, none⟩ (.int .i64 x1)) g 60 #[.string t0, .int .i64 x1, .int .i64 0, .int .i64 0, .string ⟨#[]⟩, .string ⟨#[]⟩, .string ⟨#[]⟩] := J1.put 1 (.int .i64 x1)
  have s2 := RdrX.store (RdrX.step s1 hS1 hG1.keeps) kk1
  have hS2 := fresh_trans (w := w) (R := R) (R1 := R1) hS1 hF1 (s1.size)
  have c1 : v1.cell? ⟨g, 1, none⟩ = some (.int .i64 0) := J1.cell 1
  have f1 := J1.frozen 1
  have gl1 := J1.lt
  rw [E2.out] at hR2
  go_wp2_with fail
  refine (intStep _ base rb bb D R2 x2 m2 d3 H2.out hR2).mono ?_
  intro e v2 hst
  rcases hst with ⟨m3, hm3, rfl, hG2⟩ | ⟨hm, z, l, rfl, ⟨a, rfl⟩, hG⟩
  case inr =>
    rw [hL2] at hm
    go_wp2_with (go_at_call 39; go_in)
    go_ret
    refine ⟨.inr ⟨by omega, _, rfl, ⟨_, rfl⟩⟩, ?_⟩
    exact (RdrX.step s2 hS2 hG.keeps).trans ((Keeps.refl (fun _ => False) _).alloc _) (fun _ _ h => h.elim)
  rw [hL2] at hm3
  have J2 := hI2.keeps hG2.keeps (hR2.apart hI2 (by decide) (by decide) (by decide))
  obtain ⟨R3, hT3, hF2⟩ := hG2.on
  have ap2 := hT3.apart J2 (by decide) (by decide) (by decide)
  have kk2 : Keeps (fun i => i = g) v2 (v2.setCell ⟨g, 2, none⟩ (.int .i64 x2)) := (Keeps.refl (fun i => i = g) v2).setCell (.inl rfl) _
  have hR3 := hT3.keeps kk2 (fun h => ap2 (.inl h.symm)) (fun h => ap2 (.inr (.inl h.symm))) (fun i hi h => ap2 (.inr (.inr (h ▸ hi)))) (fun i hi h => hD (h ▸ hi))
  have hI3 : Whole (v2.setCell ⟨g, 2, none⟩ (.int .i64 x2)) g 60 #[.string t0, .int .i64 x1, .int .i64 x2, .int .i64 0, .string ⟨#[]⟩, .string ⟨#[]⟩, .string ⟨#[]⟩] := J2.put 2 (.int .i64 x2)
  have s3 := RdrX.store (RdrX.step s2 hS2 hG2.keeps) kk2
  have hS3 := fresh_trans (w := w) (R := R) (R1 := R2) hS2 hF2 (s2.size)
  have c2 : v2.cell? ⟨g, 2, none⟩ = some (.int .i64 0) := J2.cell 2
  have f2 := J2.frozen 2
  have gl2 := J2.lt
  rw [E3.out] at hR3
  go_wp2_with fail
  refine (intStep _ base rb bb D R3 x3 m3 d4 H3.out hR3).mono ?_
  intro e v3 hst
  rcases hst with ⟨m4, hm4, rfl, hG3⟩ | ⟨hm, z, l, rfl, ⟨a, rfl⟩, hG⟩
  case inr =>
    rw [hL3] at hm
    go_wp2_with (go_at_call 39; go_in)
    go_ret
    refine ⟨.inr ⟨by omega, _, rfl, ⟨_, rfl⟩⟩, ?_⟩
    exact (RdrX.step s3 hS3 hG.keeps).trans ((Keeps.refl (fun _ => False) _).alloc _) (fun _ _ h => h.elim)
  rw [hL3] at hm4
  have J3 := hI3.keeps hG3.keeps (hR3.apart hI3 (by decide) (by decide) (by decide))
  obtain ⟨R4, hT4, hF3⟩ := hG3.on
  have ap3 := hT4.apart J3 (by decide) (by decide) (by decide)
  have kk3 : Keeps (fun i => i = g) v3 (v3.setCell ⟨g, 3, none⟩ (.int .i64 x3)) := (Keeps.refl (fun i => i = g) v3).setCell (.inl rfl) _
  have hR4 := hT4.keeps kk3 (fun h => ap3 (.inl h.symm)) (fun h => ap3 (.inr (.inl h.symm))) (fun i hi h => ap3 (.inr (.inr (h ▸ hi)))) (fun i hi h => hD (h ▸ hi))
  have hI4 : Whole (v3.setCell ⟨g, 3, none⟩ (.int .i64 x3)) g 60 #[.string t0, .int .i64 x1, .int .i64 x2, .int .i64 x3, .string ⟨#[]⟩, .string ⟨#[]⟩, .string ⟨#[]⟩] := J3.put 3 (.int .i64 x3)
  have s4 := RdrX.store (RdrX.step s3 hS3 hG3.keeps) kk3
  have hS4 := fresh_trans (w := w) (R := R) (R1 := R3) hS3 hF3 (s3.size)
  have c3 : v3.cell? ⟨g, 3, none⟩ = some (.int .i64 0) := J3.cell 3
  have f3 := J3.frozen 3
  have gl3 := J3.lt
  rw [E4.out] at hR4
  go_wp2_with fail
  refine (strStep _ base rb bb D R4 t4 m4 d5 (by have := H4.out; omega) hR4).mono ?_
  intro e v4 hst
  rcases hst with ⟨m5, hm5, rfl, hG4⟩ | ⟨hm, z, l, rfl, ⟨a, rfl⟩, hG⟩
  case inr =>
    rw [hL4] at hm
    go_wp2_with (go_at_call 39; go_in)
    go_ret
    refine ⟨.inr ⟨by omega, _, rfl, ⟨_, rfl⟩⟩, ?_⟩
    exact (RdrX.step s4 hS4 hG.keeps).trans ((Keeps.refl (fun _ => False) _).alloc _) (fun _ _ h => h.elim)
  rw [hL4] at hm5
  have J4 := hI4.keeps hG4.keeps (hR4.apart hI4 (by decide) (by decide) (by decide))
  obtain ⟨R5, hT5, hF4⟩ := hG4.on
  have ap4 := hT5.apart J4 (by decide) (by decide) (by decide)
  have kk4 : Keeps (fun i => i = g) v4 (v4.setCell ⟨g, 4, none⟩ (.string t4)) := (Keeps.refl (fun i => i = g) v4).setCell (.inl rfl) _
  have hR5 := hT5.keeps kk4 (fun h => ap4 (.inl h.symm)) (fun h => ap4 (.inr (.inl h.symm))) (fun i hi h => ap4 (.inr (.inr (h ▸ hi)))) (fun i hi h => hD (h ▸ hi))
  have hI5 : Whole (v4.setCell ⟨g, 4, none⟩ (.string t4)) g 60 #[.string t0, .int .i64 x1, .int .i64 x2, .int .i64 x3, .string t4, .string ⟨#[]⟩, .string ⟨#[]⟩] := J4.put 4 (.string t4)
  have s5 := RdrX.store (RdrX.step s4 hS4 hG4.keeps) kk4
  have hS5 := fresh_trans (w := w) (R := R) (R1 := R4) hS4 hF4 (s4.size)
  have c4 : v4.cell? ⟨g, 4, none⟩ = some (.string ⟨#[]⟩) := J4.cell 4
  have f4 := J4.frozen 4
  have gl4 := J4.lt
  rw [E5.out] at hR5
  go_wp2_with fail
  refine (strStep _ base rb bb D R5 t5 m5 d6 (by have := H5.out; omega) hR5).mono ?_
  intro e v5 hst
  rcases hst with ⟨m6, hm6, rfl, hG5⟩ | ⟨hm, z, l, rfl, ⟨a, rfl⟩, hG⟩
  case inr =>
    rw [hL5] at hm
    go_wp2_with (go_at_call 39; go_in)
    go_ret
    refine ⟨.inr ⟨by omega, _, rfl, ⟨_, rfl⟩⟩, ?_⟩
    exact (RdrX.step s5 hS5 hG.keeps).trans ((Keeps.refl (fun _ => False) _).alloc _) (fun _ _ h => h.elim)
  rw [hL5] at hm6
  have J5 := hI5.keeps hG5.keeps (hR5.apart hI5 (by decide) (by decide) (by decide))
  obtain ⟨R6, hT6, hF5⟩ := hG5.on
  have ap5 := hT6.apart J5 (by decide) (by decide) (by decide)
  have kk5 : Keeps (fun i => i = g) v5 (v5.setCell ⟨g, 5, none⟩ (.string t5)) := (Keeps.refl (fun i => i = g) v5).setCell (.inl rfl) _
  have hR6 := hT6.keeps kk5 (fun h => ap5 (.inl h.symm)) (fun h => ap5 (.inr (.inl h.symm))) (fun i hi h => ap5 (.inr (.inr (h ▸ hi)))) (fun i hi h => hD (h ▸ hi))
  have hI6 : Whole (v5.setCell ⟨g, 5, none⟩ (.string t5)) g 60 #[.string t0, .int .i64 x1, .int .i64 x2, .int .i64 x3, .string t4, .string t5, .string ⟨#[]⟩] := J5.put 5 (.string t5)
  have s6 := RdrX.store (RdrX.step s5 hS5 hG5.keeps) kk5
  have hS6 := fresh_trans (w := w) (R := R) (R1 := R5) hS5 hF5 (s5.size)
  have c5 : v5.cell? ⟨g, 5, none⟩ = some (.string ⟨#[]⟩) := J5.cell 5
  have f5 := J5.frozen 5
  have gl5 := J5.lt
  rw [E6.out] at hR6
  go_wp2_with fail
  refine (strStep _ base rb bb D R6 t6 m6 rest (by have := H6.out; omega) hR6).mono ?_
  intro e v6 hst
  rcases hst with ⟨m7, hm7, rfl, hG6⟩ | ⟨hm, z, l, rfl, ⟨a, rfl⟩, hG⟩
  case inr =>
    rw [hL6] at hm
    go_wp2_with (go_at_call 39; go_in)
    go_ret
    refine ⟨.inr ⟨by omega, _, rfl, ⟨_, rfl⟩⟩, ?_⟩
    exact (RdrX.step s6 hS6 hG.keeps).trans ((Keeps.refl (fun _ => False) _).alloc _) (fun _ _ h => h.elim)
  rw [hL6] at hm7
  have J6 := hI6.keeps hG6.keeps (hR6.apart hI6 (by decide) (by decide) (by decide))
  obtain ⟨R7, hT7, hF6⟩ := hG6.on
  have ap6 := hT7.apart J6 (by decide) (by decide) (by decide)
  have kk6 : Keeps (fun i => i = g) v6 (v6.setCell ⟨g, 6, none⟩ (.string t6)) := (Keeps.refl (fun i => i = g) v6).setCell (.inl rfl) _
  have hR7 := hT7.keeps kk6 (fun h => ap6 (.inl h.symm)) (fun h => ap6 (.inr (.inl h.symm))) (fun i hi h => ap6 (.inr (.inr (h ▸ hi)))) (fun i hi h => hD (h ▸ hi))
  have hI7 : Whole (v6.setCell ⟨g, 6, none⟩ (.string t6)) g 60 #[.string t0, .int .i64 x1, .int .i64 x2, .int .i64 x3, .string t4, .string t5, .string t6] := J6.put 6 (.string t6)
  have s7 := RdrX.store (RdrX.step s6 hS6 hG6.keeps) kk6
  have hS7 := fresh_trans (w := w) (R := R) (R1 := R6) hS6 hF6 (s6.size)
  have c6 : v6.cell? ⟨g, 6, none⟩ = some (.string ⟨#[]⟩) := J6.cell 6
  have f6 := J6.frozen 6
  have gl6 := J6.lt
  go_wp2_with fail
  go_ret
  exact ⟨.inl ⟨m7, by omega, rfl, ⟨R7, hR7⟩, hI7⟩, s7⟩
end Go.Proofs.Ytgnlfbekkddmiaa
