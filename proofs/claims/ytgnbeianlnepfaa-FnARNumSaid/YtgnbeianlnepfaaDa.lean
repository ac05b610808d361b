/- A column of arrays of numbers decoded from a reader. Conditions: the bytes are there, at least one row and one number; sizes far below the machine's. -/
import Derived.Test.YtgnbeianlnepfaaD32
import Derived.Test.YtgnbeianlnepfaaNo
namespace Go.Proofs.Ytgnbeianlnepfaa
open Go.RowKit Go.Lib
set_option linter.unusedVariables false
theorem ends_get : ∀ (ns : List Nat) (s i : Nat), i < ns.length → (ends s ns)[i]? = some (s + (ns.take (i + 1)).sum)
  | [], s, i, h => by simp at h
  | a :: r, s, 0, h => by simp [ends]
  | a :: r, s, i + 1, h => by
    rw [ends, List.getElem?_cons_succ, ends_get r (s + a) i (by simpa using h), List.take_succ_cons, List.sum_cons, Nat.add_assoc]
theorem ends_le (ns : List Nat) : ∀ x ∈ ends 0 ns, x ≤ ns.sum := by
  intro x hx
  obtain ⟨i, hi, rfl⟩ := List.getElem_of_mem hx
  have hl : i < ns.length := by rwa [ends_length] at hi
  have h := ends_get ns 0 i hl
  rw [List.getElem?_eq_getElem hi] at h
  rw [Option.some.inj h, Nat.zero_add]
  exact sum_le ns (i + 1)
set_option maxRecDepth 10000 in
theorem checkOk (w : World) (n : Nat) (h : n ≤ 100000000) : Calls Try.prog 104 #[.int .i64 (n : Int)] w fun e w' => e = .returned .nilIface ∧ w = w' := by
  have h1 : ¬ ((n : Int) < 0) := by omega
  have h2 : ¬ ((100000000 : Int) < (n : Int)) := by omega
  go_enter Try.func104, Try.ntmps104
  go_wp2_with fail
  go_ret
  exact ⟨rfl, rfl⟩
def NArrDec (w : World) (base rb bb ga gs : Nat) (D R : Option Nat) (RR : List (List Nat)) (d : List UInt8) (e : Ending) (w' : World) : Prop :=
  e = .returned .nilIface ∧ (∃ O ko A c, NArrAt w' base ga gs O ko A c RR) ∧ (∃ R', RdrOn w' base rb bb D R' d) ∧ Keeps (fun i => i = ga ∨ i = gs ∨ i = rb ∨ i = bb ∨ R = some i) w w'
set_option maxRecDepth 100000 in
set_option maxHeartbeats 4000000 in
theorem decNArr (w : World) (base rb bb ga gs : Nat) (D R : Option Nat) (RR : List (List Nat)) (n f : Nat) (d : List UInt8) (hC : NArrAt w base ga gs none 0 none 0 []) (hl : RR.length = n) (h0 : 0 < n) (hn : n ≤ 1000) (hfl : RR.flatten.length = f) (f0 : 0 < f) (hf : f ≤ 100000) (hx : ∀ x ∈ RR.flatten, x < 4294967296)
    (hR : RdrOn w base rb bb D R (narrB RR ++ d)) (hD : D ≠ some ga ∧ D ≠ some gs) (hga : ga ≠ rb ∧ ga ≠ bb ∧ R ≠ some ga) (hgs : gs ≠ rb ∧ gs ≠ bb ∧ R ≠ some gs) :
    Calls Try.prog 116 #[.pointer (some ⟨ga, 0, none⟩), .pointer (some ⟨rb, 0, none⟩), .int .i64 (n : Int)] w fun e w' => NArrDec w base rb bb ga gs D R RR d e w' := by
  have hsum : (RR.map List.length).sum = f := by rw [← List.length_flatten, hfl]
  have hend : (ends 0 (RR.map List.length))[n - 1]? = some f := by
    rw [ends_get _ 0 (n - 1) (by rw [List.length_map]; omega), Nat.zero_add, List.take_of_length_le (by rw [List.length_map]; omega), hsum]
  have hlt := hC.blk.lt
  have hlts := hC.col.blk.lt
  have nS : ga ≠ gs := hC.blk.differ hC.col.blk (by decide)
  have hR' : RdrOn w base rb bb D R (u64s (ends 0 (RR.map List.length)) ++ (u32s RR.flatten ++ d)) := by rw [← List.append_assoc]; exact hR
  have HFW := Lib.hid hR.facts
  have HD1 := Lib.hid (decU64 w base rb bb ga D R n (ends 0 (RR.map List.length)) (u32s RR.flatten ++ d) (by rw [ends_length, List.length_map, hl]) h0 (by omega) (fun x hx => by
    have h1 := ends_le _ x hx
    have h2 : (256 : Nat) ^ 8 = 18446744073709551616 := rfl
    omega) hR' (hC.blk.cell 0) (hC.blk.frozen 0) (by rintro (h | h | h); exact hga.1 h; exact hga.2.1 h; exact hga.2.2 h) hlt)
  have HB := Lib.hid hC.blk
  have HN := Lib.hid hC.col
  have HLO := Lib.hid hC.lo
  have hb0 : base ≤ w.heap.size := by have := hC.lo; omega
  have HE := Lib.hid hend
  have HX := Lib.hid hx
  have HL := Lib.hid hl
  have HFL := Lib.hid hfl
  have HGA := Lib.hid hga
  have HGS := Lib.hid hgs
  have HDD := Lib.hid hD
  have hvl : ((ends 0 (RR.map List.length)).map fun x : Nat => Value.int .u64 (x : Int)).length = n := by rw [List.length_map, ends_length, List.length_map, hl]
  have HVL := Lib.hid hvl
  clear hC hR hR' hsum hend hx hl hfl hvl hD hga hgs
  go_enter Try.func116, Try.ntmps116
  go_wp2_with fail
  refine HD1.out.mono ?_
  rintro e w1 ⟨O, ko, w2, rfl, rfl, hO, hGo⟩
  rw [HVL.out] at hO ⊢
  have S1 : ∀ g, (g ≠ rb ∧ g ≠ bb ∧ R ≠ some g) → ¬ (g = rb ∨ g = bb ∨ R = some g) := by
    rintro g ⟨h1, h2, h3⟩ (h | h | h)
    · exact h1 h
    · exact h2 h
    · exact h3 h
  have hb2 := HB.out.keeps hGo.keeps (S1 _ HGA.out)
  have hn2 := HN.out.keeps hGo.keeps (S1 _ HGS.out) (fun k hk => by cases hk)
  have K1 := (Keeps.refl (fun i => i = ga) w2).setCell (p := ⟨ga, 0, none⟩) (.inl rfl) (.slice O n ko)
  have hb1 := hb2.put 0 (.slice O n ko)
  have hn1 := hn2.keeps K1 (fun h => nS h.symm) (fun k hk => by cases hk)
  have hOga : ob O ≠ some ga := by have := own_far hO hb2 (by decide); rwa [ownBlock_slice] at this
  have ho1 := own_keeps hO K1 (fun k hk h => by rw [ownBlock_slice] at hk; exact hOga (h ▸ hk))
  obtain ⟨R2, hOn2, hRR2⟩ := hGo.on
  have hR2ga : R2 ≠ some ga := by
    rcases hRR2 with h | h
    · rw [h]; exact HGA.out.2.2
    · intro h2; have := h _ h2; omega
  have hR2gs : R2 ≠ some gs := by
    rcases hRR2 with h | h
    · rw [h]; exact HGS.out.2.2
    · intro h2; have := h _ h2; omega
  have hOn1 : RdrOn (w2.setCell ⟨ga, 0, none⟩ (.slice O n ko)) base rb bb D R2 (u32s RR.flatten ++ d) := hOn2.keeps K1 (fun h => HGA.out.1 h.symm) (fun h => HGA.out.2.1 h.symm) (fun i hi h => hR2ga (by rw [hi]; exact congrArg some h)) (fun i hi h => HDD.out.1 (by rw [hi]; exact congrArg some h))
  have KW : Keeps (fun i => i = ga ∨ i = gs ∨ i = rb ∨ i = bb ∨ R = some i) w (w2.setCell ⟨ga, 0, none⟩ (.slice O n ko)) := (hGo.keeps.mono (S' := fun i => i = ga ∨ i = gs ∨ i = rb ∨ i = bb ∨ R = some i) (fun i _ h => .inr (.inr h))).trans K1 (fun i _ h => .inl h)
  generalize hw1 : w2.setCell ⟨ga, 0, none⟩ (.slice O n ko) = w1 at *
  clear hw1
  have e0 : w1.cell? ⟨ga, 0, none⟩ = some (.slice O n ko) := hb1.cell 0
  have e1 : w1.cell? ⟨ga, 1, none⟩ = some (.iface 68 (.pointer (some ⟨gs, 0, none⟩))) := hb1.cell 1
  obtain ⟨og, cap, hv, hol, hoh⟩ := ho1.form h0
  injection hv with hv1 hv2 hv3
  subst hv1 hv3
  have hlast : w1.cell? ⟨og, n - 1, none⟩ = some (.int .u64 (f : Int)) := by rw [ho1.cellAt (n - 1) (by omega), List.getElem?_map, HE.out]; rfl
  have m0 : ((n : Int) - 1).toNat = n - 1 := by omega
  have m1 : (0 : Int) ≤ (n : Int) - 1 := by omega
  have m2 : (n : Int) - 1 < (n : Int) := by omega
  have m3 : (0 : Int) < (n : Int) := by omega
  have m4 : IntKind.i64.wrap ((n : Int) - 1) = (n : Int) - 1 := by rw [IntKind.wrap_i64]; omega
  have m5 : IntKind.i64.wrap (f : Int) = (f : Int) := by rw [IntKind.wrap_i64]; omega
  have hlt1 := hb1.lt
  have hlts1 := hn1.blk.lt
  have HD2 := Lib.hid (decU32 w1 base rb bb gs D R2 f RR.flatten d HFL.out f0 hf (fun x hx => by have := HX.out x hx; simpa using this) hOn1 (hn1.blk.cell 0) (hn1.blk.frozen 0) (by rintro (h | h | h); exact HGS.out.1 h; exact HGS.out.2.1 h; exact hR2gs h) hlts1)
  have HNO : Hid (R2 ≠ some og) := Lib.hid (by
    obtain ⟨A', c', C, n', k', q, hRA, _, hCR⟩ := hOn1
    intro h
    have h2 := own_apart hRA.own ho1 (by decide) og (by rw [ownBlock_slice, hCR]; exact h)
    exact h2 (by simp [Value.ownBlock]))
  have HFR := Lib.hid hOn1.facts
  have HO1 := Lib.hid ho1
  have HB1 := Lib.hid hb1
  have HN1 := Lib.hid hn1
  have HKW := Lib.hid KW
  have HRR2 := Lib.hid hRR2
  have HOGA := Lib.hid hOga
  have HCK := Lib.hid (fun w => checkOk w f (by omega))
  have HS1 := Lib.hid (hGo.keeps.size)
  clear hv2 hO hGo S1 hb2 hn2 K1 hn1 hOn1 hOn2 KW ho1 hb1 hR2ga hRR2 hOga
  go_wp2_with fail
  refine (HCK.out _).mono ?_
  rintro e wc ⟨rfl, rfl⟩
  go_wp2_with fail
  refine HD2.out.mono ?_
  rintro e w3 ⟨A, c, w4, rfl, rfl, hA, hGo4⟩
  rw [List.length_map, HFL.out] at hA ⊢
  go_wp2_with fail
  go_ret
  have hRR2 := HRR2.out
  have hlo := (HO1.out.lt og (by simp [Value.ownBlock])).1
  have frw := HFW.out
  have S2 : ∀ g, (g ≠ rb ∧ g ≠ bb ∧ R2 ≠ some g) → ¬ (g = rb ∨ g = bb ∨ R2 = some g) := by
    rintro g ⟨h1, h2, h3⟩ (h | h | h)
    · exact h1 h
    · exact h2 h
    · exact h3 h
  have r2 : ∀ g, g < w.heap.size → R ≠ some g → R2 ≠ some g := fun g hg hne => by
    rcases hRR2 with h | h
    · rw [h]; exact hne
    · intro h2; have := h _ h2; omega
  have hb4 := HB1.out.keeps hGo4.keeps (S2 _ ⟨HGA.out.1, HGA.out.2.1, r2 _ hlt HGA.out.2.2⟩)
  have hn4 := HN1.out.keeps hGo4.keeps (S2 _ ⟨HGS.out.1, HGS.out.2.1, r2 _ hlts HGS.out.2.2⟩) (fun k hk => by cases hk)
  have ho4 := own_keeps HO1.out hGo4.keeps (fun k hk => by
    have hk2 : og = k := by simpa [Value.ownBlock] using hk
    subst hk2
    exact S2 _ ⟨by omega, by omega, HNO.out⟩)
  have K2 := (Keeps.refl (fun i => i = gs) w4).setCell (p := ⟨gs, 0, none⟩) (.inl rfl) (.slice A f c)
  have hb5 := hb4.keeps K2 nS
  have nA : ob A ≠ some gs := by have := own_far hA hn4.blk (by decide); rwa [ownBlock_slice] at this
  have nO : ob (some (⟨og, 0, none⟩ : Addr)) ≠ some gs := by have := own_far ho4 hn4.blk (by decide); rwa [ownBlock_slice] at this
  have hA5 := own_keeps hA K2 (fun k hk h => by rw [ownBlock_slice] at hk; exact nA (h ▸ hk))
  have ho5 := own_keeps ho4 K2 (fun k hk h => by rw [ownBlock_slice] at hk; exact nO (h ▸ hk))
  obtain ⟨R3, hOn3, hRR3⟩ := hGo4.on
  have r3 : R3 ≠ some gs := by
    rcases hRR3 with h | h
    · rw [h]; exact r2 _ hlts HGS.out.2.2
    · intro h2; have := h _ h2; omega
  have hw1s := HKW.out.size
  refine ⟨rfl, ⟨some ⟨og, 0, none⟩, ko, A, c, ⟨?_, ?_, ⟨?_, ?_, HN.out.lo⟩, HLO.out⟩⟩, ⟨R3, hOn3.keeps K2 (fun h => HGS.out.1 h.symm) (fun h => HGS.out.2.1 h.symm) (fun i hi h => r3 (by rw [hi]; exact congrArg some h)) (fun i hi h => HDD.out.2 (by rw [hi]; exact congrArg some h))⟩, ?_⟩
  · rw [HL.out]; exact hb5
  · rw [HL.out]; exact own_base_le ho5 hb0
  · rw [HFL.out]; exact hn4.blk.put 0 _
  · rw [HFL.out]; exact own_base_le hA5 (by omega)
  · refine (HKW.out.trans hGo4.keeps (fun i hi h => ?_)).trans K2 (fun i _ h => .inr (.inl h))
    rcases h with h | h | h
    · exact .inr (.inr (.inl h))
    · exact .inr (.inr (.inr (.inl h)))
    · refine .inr (.inr (.inr (.inr ?_)))
      rcases hRR2 with h2 | h2
      · rw [← h2]; exact h
      · have := h2 _ h; omega
end Go.Proofs.Ytgnbeianlnepfaa
