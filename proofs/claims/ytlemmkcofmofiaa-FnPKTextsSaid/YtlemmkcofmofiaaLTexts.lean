/- The walk of the law on texts. -/
import Derived.Test.YtlemmkcofmofiaaTabGet
import Derived.Test.YtlemmkcofmofiaaText
import Derived.Test.YtlemmkcofmofiaaClone
import Derived.Test.YtlemmkcofmofiaaCut
import Derived.Test.YtlemmkcofmofiaaVer
namespace Go.Proofs.Ytlemmkcofmofiaa
open Go.RowKit Go.Lib
set_option linter.unusedVariables false

set_option maxRecDepth 100000 in
set_option maxHeartbeats 8000000 in
theorem textsYes (w : World) (v : Int) (hv : 50264 ≤ v) (ver nb cb : Nat) (hver : (50000 : Int) + (ver : Int) % 4501 = v) (hver2 : ver < 65536) (a b : ByteArray) (ha : a.size ≤ 100) (hb : b.size ≤ 100) (AB : Option Addr) (lb : List UInt8) (hlb : lb.length = nb) (hRB : Rd w 1 AB nb (Lib.byteCells lb)) (hn9 : nb ≤ 9) :
    Calls Try.prog 4 #[.string a, .string b, .int .u16 ver, .slice AB nb cb] w fun e w' => e = .returned (.bool true) ∧ Below w.heap.size w w' := by
  obtain ⟨i0, hi0, hz0, hz1, hz2⟩ := info_parts infoU8
  have HSH := Lib.hid (fun w g t hW => pkShort2 w g t a b hW)
  have HVER := Lib.hid (fun w => pkVersion w ver v hver2 hver)
  have HTP := Lib.hid (fun w => tabPut w a b (by omega) (by omega))
  have HTG := Lib.hid (fun w A c => tabGet w A c a b (by omega) (by omega) lb _ rfl)
  have HDP := Lib.hid (fun w => datPutYes w v hv a (by omega))
  have HDG := Lib.hid (fun w A c => datGetYes w A c v hv a (by omega) lb _ rfl)
  have HXA := Lib.hid (fun w => pkText w a (by omega))
  have HXB := Lib.hid (fun w => pkText w b (by omega))
  have hsh : decide (a.size ≤ 100 ∧ b.size ≤ 100) = true := decide_eq_true ⟨ha, hb⟩
  rw [hsh] at HSH
  clear hsh
  have hla : (strB a).length ≤ 200 := by have := Lib.uvarint_length64 (x := a.size) (by omega); rw [strB, List.length_append, sl_length]; omega
  have hlb' : (strB b).length ≤ 200 := by have := Lib.uvarint_length64 (x := b.size) (by omega); rw [strB, List.length_append, sl_length]; omega
  have hg1 : ¬ (2147483647 : Int) < (a.size : Int) := by omega
  have hg2 : ¬ (2147483647 : Int) < (b.size : Int) := by omega
  have hg3 : ¬ (2147483647 : Int) < (nb : Int) := by omega
  have hg4 : ¬ (9 : Int) < (nb : Int) := by omega
  have i1 : (50264 : Int) ≤ v := hv
  clear hv hver hver2 ha hb
  generalize strB a = da at *
  generalize strB b = db at *
  have hdt : ∃ dt : List UInt8, dt = 11 :: (da ++ db) := ⟨_, rfl⟩
  obtain ⟨dt, hdt⟩ := hdt
  have hdtl : dt.length ≤ 401 := by rw [hdt, List.length_cons, List.length_append]; omega
  rw [← hdt] at HTP HTG
  have hdc : ∃ dc : List UInt8, dc = da := ⟨_, rfl⟩
  obtain ⟨dc, hdc⟩ := hdc
  rw [← hdc] at HDP HDG
  have hdcl : dc.length ≤ 200 := by rw [hdc]; exact hla
  generalize hna : da.length = na at *
  generalize hnbb : db.length = nbb at *
  generalize hnt : dt.length = nt at *
  generalize hnc : dc.length = nc at *
  have HDT := Lib.hid hdt
  have HDC := Lib.hid hdc
  have HNT := Lib.hid hnt
  have HNC := Lib.hid hnc
  have HNA := Lib.hid hna
  have HNB := Lib.hid hnbb
  have HL1 := Lib.hid (show (dt ++ lb).length = nt + nb by rw [List.length_append, hnt, hlb])
  have HL2 := Lib.hid (show (dc ++ lb).length = nc + nb by rw [List.length_append, hnc, hlb])
  have HLB := Lib.hid hlb
  clear hdt hdc hnt hnc hna hnbb hlb
  have k0 := (Keeps.refl (fun _ => False) w).alloc (.cells #[.string a, .string b] 9)
  have hW0 := Whole.new w 9 #[.string a, .string b]
  go_enter Try.func4, Try.ntmps4
  go_wp2_with fail
  refine (HSH.out _ w.heap.size _ hW0).mono ?_
  rintro e wv ⟨rfl, rfl⟩
  go_wp2_with fail
  refine (HVER.out _).mono ?_
  rintro e wv ⟨rfl, rfl⟩
  go_wp2_with fail
  refine (HTP.out _).mono ?_
  rintro e w1 ⟨A1, c1, rfl, hown1, hK1, hA1⟩
  have hK01 := k0.trans hK1 (fun _ _ h => h)
  have hcl := cloneB w1 A1 c1 dt (by rw [HNT.out]; exact Rd.own hown1) (by rw [HNT.out]; omega)
  rw [HNT.out] at hcl
  have HCL := Lib.hid hcl
  clear hcl
  go_wp2_with fail
  refine HCL.out.mono ?_
  clear HCL
  rintro e w2 ⟨A2, c2, rfl, hown2, hK2, hA2⟩
  have hK02 := hK01.trans hK2 (fun _ _ h => h)
  have hRB2 := hRB.keeps hK02 (fun _ _ h => h)
  go_wp2_with (first
    | (at_builtin
       refine wpList_append_rd _ rfl (.tmp 49) (.tmp 50) _ rfl w1.heap.size 5 i0 _ 1 1 Try.underlying26 hi0 hz0 hz1 hz2 rfl Nat.one_pos A2 c2 nt _ rfl hown2 AB nb cb (Lib.byteCells lb) rfl hRB2 (byteCells_one _) (by simp only [maxLen]; omega) (by omega) hK2.size ?_
       intro A3 c3 w3 hown3 hg3 hat3
       have hK03 := hK02.grown hg3 (fun k hk => .inr (by have := hA2 k hk; have := hK01.size; omega))
       have hK13 := hK2.grown hg3 (fun k hk => .inr (by have := hA2 k hk; omega))
       have hget := HTG.out w3 A3 c3
       rw [← Lib.byteCells_append] at hown3
       rw [HL1.out, HLB.out] at hget)
    | (go_at_call 18; refine (hget (Rd.own hown3) (own_cap hown3) (fun i hi => (hown3.lt i (by rw [ownBlock_slice]; exact hi)).2)).mono ?_; clear hget))
  rintro e w4 ⟨rfl, hK4⟩
  have hK04 := hK03.trans hK4 (fun _ _ h => h)
  have hown14 := own_keeps hown1 (hK13.trans hK4 (fun _ _ h => h)) (fun _ _ h => h)
  go_wp2_with fail
  refine (HXA.out w4).mono ?_
  rintro e w5 ⟨A5, c5, rfl, hown5, hK5, hA5⟩
  go_wp2_with fail
  refine (HXB.out w5).mono ?_
  rintro e w6 ⟨A6, c6, rfl, hown6, hK6, hA6⟩
  have hK06 := (hK04.trans hK5 (fun _ _ h => h)).trans hK6 (fun _ _ h => h)
  have hown56 := own_keeps hown5 hK6 (fun _ _ h => h)
  go_wp2_with (first
    | (at_builtin
       refine wpList_append_rd _ rfl (.tmp 59) (.tmp 61) _ rfl w4.heap.size 5 i0 _ 1 1 Try.underlying26 hi0 hz0 hz1 hz2 rfl Nat.one_pos A5 c5 na _ rfl hown56 A6 nbb c6 _ rfl (Rd.own hown6) (byteCells_one _) (by simp only [maxLen]; omega) (by omega) (by have := hK5.size; have := hK6.size; omega) ?_
       intro A7 c7 w7 hown7 hg7 hat7
       rw [← Lib.byteCells_append] at hown7
       have hK07 := hK06.grown hg7 (fun k hk => .inr (by have := hA5 k hk; have := hK04.size; omega))
       have hK47 := (hK5.trans hK6 (fun _ _ h => h)).grown hg7 (fun k hk => .inr (by have := hA5 k hk; omega))
       have hown17 := own_keeps hown14 hK47 (fun _ _ h => h))
    | (go_at_call 19; refine (pkEnds_with w7 A1 A7 nt c1 (na + nbb) c7 11 11 dt (da ++ db) rfl HDT.out HNT.out (by rw [List.length_append, HNA.out, HNB.out]) (Rd.own hown17) (Rd.own hown7) (by omega)).mono ?_; rintro e w8 ⟨rfl, hK8⟩; have hK08 := hK07.trans hK8 (fun _ _ h => h)))
  refine (HXA.out w8).mono ?_
  rintro e w9 ⟨A9, c9, rfl, hown9, hK9, hA9⟩
  have hK09 := hK08.trans hK9 (fun _ _ h => h)
  go_wp2_with fail
  refine (HDP.out w9).mono ?_
  rintro e wa ⟨Aa, ca, rfl, howna, hKa, hAa⟩
  have hK0a := hK09.trans hKa (fun _ _ h => h)
  have hcl := cloneB wa Aa ca dc (by rw [HNC.out]; exact Rd.own howna) (by rw [HNC.out]; omega)
  rw [HNC.out] at hcl
  have HCL := Lib.hid hcl
  clear hcl
  go_wp2_with fail
  refine HCL.out.mono ?_
  clear HCL
  rintro e wb ⟨Ab, cb', rfl, hownb, hKb, hAb⟩
  have hK0b := hK0a.trans hKb (fun _ _ h => h)
  have hRBb := hRB.keeps hK0b (fun _ _ h => h)
  go_wp2_with (first
    | (at_builtin
       refine wpList_append_rd _ rfl (.tmp 95) (.tmp 96) _ rfl wa.heap.size 5 i0 _ 1 1 Try.underlying26 hi0 hz0 hz1 hz2 rfl Nat.one_pos Ab cb' nc _ rfl hownb AB nb cb (Lib.byteCells lb) rfl hRBb (byteCells_one _) (by simp only [maxLen]; omega) (by omega) hKb.size ?_
       intro Ac cc wc hownc hgc hatc
       have hK0c := hK0b.grown hgc (fun k hk => .inr (by have := hAb k hk; have := hK0a.size; omega))
       have hKac := hKb.grown hgc (fun k hk => .inr (hAb k hk))
       have hget := HDG.out wc Ac cc
       rw [← Lib.byteCells_append] at hownc
       rw [HL2.out, HLB.out] at hget)
    | (go_at_call 22; refine (hget (Rd.own hownc) (own_cap hownc) (fun i hi => (hownc.lt i (by rw [ownBlock_slice]; exact hi)).2)).mono ?_; clear hget))
  rintro e wd ⟨rfl, hKd⟩
  have hK0d := hK0c.trans hKd (fun _ _ h => h)
  have hownad := own_keeps howna (hKac.trans hKd (fun _ _ h => h)) (fun _ _ h => h)
  have hownwd := own_keeps hown9 (((hKa.trans hKac (fun _ _ h => h))).trans hKd (fun _ _ h => h)) (fun _ _ h => h)
  go_wp2_with (first
    | (go_at_call 10
       refine (bytesEq wd Aa A9 nc ca na c9 dc da (Rd.own hownad) (Rd.own hownwd)).mono ?_; rintro e we ⟨he, rfl⟩; rw [decide_eq_true HDC.out] at he; subst he))
  go_ret
  exact ⟨rfl, hK0d.below (Nat.le_refl _) (fun _ h => h.elim)⟩

set_option maxRecDepth 100000 in
set_option maxHeartbeats 8000000 in
theorem textsNo (w : World) (v : Int) (hv : v < 50264) (ver nb cb : Nat) (hver : (50000 : Int) + (ver : Int) % 4501 = v) (hver2 : ver < 65536) (a b : ByteArray) (ha : a.size ≤ 100) (hb : b.size ≤ 100) (AB : Option Addr) (lb : List UInt8) (hlb : lb.length = nb) (hRB : Rd w 1 AB nb (Lib.byteCells lb)) (hn9 : nb ≤ 9) :
    Calls Try.prog 4 #[.string a, .string b, .int .u16 ver, .slice AB nb cb] w fun e w' => e = .returned (.bool true) ∧ Below w.heap.size w w' := by
  obtain ⟨i0, hi0, hz0, hz1, hz2⟩ := info_parts infoU8
  have HSH := Lib.hid (fun w g t hW => pkShort2 w g t a b hW)
  have HVER := Lib.hid (fun w => pkVersion w ver v hver2 hver)
  have HTP := Lib.hid (fun w => tabPut w a b (by omega) (by omega))
  have HTG := Lib.hid (fun w A c => tabGet w A c a b (by omega) (by omega) lb _ rfl)
  have HDP := Lib.hid (fun w => datPutNo w v hv a (by omega))
  have HDG := Lib.hid (fun w A c => datGetNo w A c v hv a (by omega) lb _ rfl)
  have HXA := Lib.hid (fun w => pkText w a (by omega))
  have HXB := Lib.hid (fun w => pkText w b (by omega))
  have hsh : decide (a.size ≤ 100 ∧ b.size ≤ 100) = true := decide_eq_true ⟨ha, hb⟩
  rw [hsh] at HSH
  clear hsh
  have hla : (strB a).length ≤ 200 := by have := Lib.uvarint_length64 (x := a.size) (by omega); rw [strB, List.length_append, sl_length]; omega
  have hlb' : (strB b).length ≤ 200 := by have := Lib.uvarint_length64 (x := b.size) (by omega); rw [strB, List.length_append, sl_length]; omega
  have hg1 : ¬ (2147483647 : Int) < (a.size : Int) := by omega
  have hg2 : ¬ (2147483647 : Int) < (b.size : Int) := by omega
  have hg3 : ¬ (2147483647 : Int) < (nb : Int) := by omega
  have hg4 : ¬ (9 : Int) < (nb : Int) := by omega
  have i1 : ¬ (50264 : Int) ≤ v := by omega
  clear hv hver hver2 ha hb
  generalize strB a = da at *
  generalize strB b = db at *
  have hdt : ∃ dt : List UInt8, dt = 11 :: (da ++ db) := ⟨_, rfl⟩
  obtain ⟨dt, hdt⟩ := hdt
  have hdtl : dt.length ≤ 401 := by rw [hdt, List.length_cons, List.length_append]; omega
  rw [← hdt] at HTP HTG
  have hdc : ∃ dc : List UInt8, dc = [] := ⟨_, rfl⟩
  obtain ⟨dc, hdc⟩ := hdc
  rw [← hdc] at HDP
  have hdg : dc ++ lb = lb := by rw [hdc]; rfl
  have hdcl : dc.length ≤ 200 := by rw [hdc]; simp
  generalize hna : da.length = na at *
  generalize hnbb : db.length = nbb at *
  generalize hnt : dt.length = nt at *
  generalize hnc : dc.length = nc at *
  have HDT := Lib.hid hdt
  have HDC := Lib.hid hdc
  have HNT := Lib.hid hnt
  have HNC := Lib.hid hnc
  have HNA := Lib.hid hna
  have HNB := Lib.hid hnbb
  have HL1 := Lib.hid (show (dt ++ lb).length = nt + nb by rw [List.length_append, hnt, hlb])
  have HL2 := Lib.hid (show (dc ++ lb).length = nc + nb by rw [List.length_append, hnc, hlb])
  have HLB := Lib.hid hlb
  have HDG' := Lib.hid hdg
  clear hdg
  clear hdt hdc hnt hnc hna hnbb hlb
  have k0 := (Keeps.refl (fun _ => False) w).alloc (.cells #[.string a, .string b] 9)
  have hW0 := Whole.new w 9 #[.string a, .string b]
  go_enter Try.func4, Try.ntmps4
  go_wp2_with fail
  refine (HSH.out _ w.heap.size _ hW0).mono ?_
  rintro e wv ⟨rfl, rfl⟩
  go_wp2_with fail
  refine (HVER.out _).mono ?_
  rintro e wv ⟨rfl, rfl⟩
  go_wp2_with fail
  refine (HTP.out _).mono ?_
  rintro e w1 ⟨A1, c1, rfl, hown1, hK1, hA1⟩
  have hK01 := k0.trans hK1 (fun _ _ h => h)
  have hcl := cloneB w1 A1 c1 dt (by rw [HNT.out]; exact Rd.own hown1) (by rw [HNT.out]; omega)
  rw [HNT.out] at hcl
  have HCL := Lib.hid hcl
  clear hcl
  go_wp2_with fail
  refine HCL.out.mono ?_
  clear HCL
  rintro e w2 ⟨A2, c2, rfl, hown2, hK2, hA2⟩
  have hK02 := hK01.trans hK2 (fun _ _ h => h)
  have hRB2 := hRB.keeps hK02 (fun _ _ h => h)
  go_wp2_with (first
    | (at_builtin
       refine wpList_append_rd _ rfl (.tmp 49) (.tmp 50) _ rfl w1.heap.size 5 i0 _ 1 1 Try.underlying26 hi0 hz0 hz1 hz2 rfl Nat.one_pos A2 c2 nt _ rfl hown2 AB nb cb (Lib.byteCells lb) rfl hRB2 (byteCells_one _) (by simp only [maxLen]; omega) (by omega) hK2.size ?_
       intro A3 c3 w3 hown3 hg3 hat3
       have hK03 := hK02.grown hg3 (fun k hk => .inr (by have := hA2 k hk; have := hK01.size; omega))
       have hK13 := hK2.grown hg3 (fun k hk => .inr (by have := hA2 k hk; omega))
       have hget := HTG.out w3 A3 c3
       rw [← Lib.byteCells_append] at hown3
       rw [HL1.out, HLB.out] at hget)
    | (go_at_call 18; refine (hget (Rd.own hown3) (own_cap hown3) (fun i hi => (hown3.lt i (by rw [ownBlock_slice]; exact hi)).2)).mono ?_; clear hget))
  rintro e w4 ⟨rfl, hK4⟩
  have hK04 := hK03.trans hK4 (fun _ _ h => h)
  have hown14 := own_keeps hown1 (hK13.trans hK4 (fun _ _ h => h)) (fun _ _ h => h)
  go_wp2_with fail
  refine (HXA.out w4).mono ?_
  rintro e w5 ⟨A5, c5, rfl, hown5, hK5, hA5⟩
  go_wp2_with fail
  refine (HXB.out w5).mono ?_
  rintro e w6 ⟨A6, c6, rfl, hown6, hK6, hA6⟩
  have hK06 := (hK04.trans hK5 (fun _ _ h => h)).trans hK6 (fun _ _ h => h)
  have hown56 := own_keeps hown5 hK6 (fun _ _ h => h)
  go_wp2_with (first
    | (at_builtin
       refine wpList_append_rd _ rfl (.tmp 59) (.tmp 61) _ rfl w4.heap.size 5 i0 _ 1 1 Try.underlying26 hi0 hz0 hz1 hz2 rfl Nat.one_pos A5 c5 na _ rfl hown56 A6 nbb c6 _ rfl (Rd.own hown6) (byteCells_one _) (by simp only [maxLen]; omega) (by omega) (by have := hK5.size; have := hK6.size; omega) ?_
       intro A7 c7 w7 hown7 hg7 hat7
       rw [← Lib.byteCells_append] at hown7
       have hK07 := hK06.grown hg7 (fun k hk => .inr (by have := hA5 k hk; have := hK04.size; omega))
       have hK47 := (hK5.trans hK6 (fun _ _ h => h)).grown hg7 (fun k hk => .inr (by have := hA5 k hk; omega))
       have hown17 := own_keeps hown14 hK47 (fun _ _ h => h))
    | (go_at_call 19; refine (pkEnds_with w7 A1 A7 nt c1 (na + nbb) c7 11 11 dt (da ++ db) rfl HDT.out HNT.out (by rw [List.length_append, HNA.out, HNB.out]) (Rd.own hown17) (Rd.own hown7) (by omega)).mono ?_; rintro e w8 ⟨rfl, hK8⟩; have hK08 := hK07.trans hK8 (fun _ _ h => h)))
  obtain ⟨w9, rfl⟩ : ∃ w9, w9 = w8 := ⟨_, rfl⟩
  have hK09 := hK08
  refine (HDP.out w9).mono ?_
  rintro e wa ⟨Aa, ca, rfl, howna, hKa, hAa⟩
  have hK0a := hK09.trans hKa (fun _ _ h => h)
  have hcl := cloneB wa Aa ca dc (by rw [HNC.out]; exact Rd.own howna) (by rw [HNC.out]; omega)
  rw [HNC.out] at hcl
  have HCL := Lib.hid hcl
  clear hcl
  go_wp2_with fail
  refine HCL.out.mono ?_
  clear HCL
  rintro e wb ⟨Ab, cb', rfl, hownb, hKb, hAb⟩
  have hK0b := hK0a.trans hKb (fun _ _ h => h)
  have hRBb := hRB.keeps hK0b (fun _ _ h => h)
  go_wp2_with (first
    | (at_builtin
       refine wpList_append_rd _ rfl (.tmp 95) (.tmp 96) _ rfl wa.heap.size 5 i0 _ 1 1 Try.underlying26 hi0 hz0 hz1 hz2 rfl Nat.one_pos Ab cb' nc _ rfl hownb AB nb cb (Lib.byteCells lb) rfl hRBb (byteCells_one _) (by simp only [maxLen]; omega) (by omega) hKb.size ?_
       intro Ac cc wc hownc hgc hatc
       have hK0c := hK0b.grown hgc (fun k hk => .inr (by have := hAb k hk; have := hK0a.size; omega))
       have hKac := hKb.grown hgc (fun k hk => .inr (hAb k hk))
       have hget := HDG.out wc Ac cc
       rw [← Lib.byteCells_append] at hownc
       rw [HDG'.out] at hownc; have hnc0 : nc = 0 := by rw [← HNC.out, HDC.out]; rfl
       rw [HLB.out] at hget
       subst hnc0
       rw [Nat.zero_add] at hownc
       rw [Nat.zero_add])
    | (go_at_call 22; refine (hget (Rd.own hownc) (own_cap hownc) (fun i hi => (hownc.lt i (by rw [ownBlock_slice]; exact hi)).2)).mono ?_; clear hget))
  rintro e wd ⟨rfl, hKd⟩
  have hK0d := hK0c.trans hKd (fun _ _ h => h)
  have hownad := own_keeps howna (hKac.trans hKd (fun _ _ h => h)) (fun _ _ h => h)
  skip
  go_wp2_with (first
    | (go_at_call 10
       refine (bytesEq wd Aa none _ ca 0 0 dc [] (Rd.own hownad) Rd.none').mono ?_; rintro e we ⟨he, rfl⟩; rw [decide_eq_true HDC.out] at he; subst he))
  go_ret
  exact ⟨rfl, hK0d.below (Nat.le_refl _) (fun _ h => h.elim)⟩

set_option maxRecDepth 100000 in
set_option maxHeartbeats 1000000 in
theorem textsE1 (w : World) (ver nb cb : Nat) (a b : ByteArray) (AB : Option Addr) (h1 : 2147483647 < a.size) :
    Calls Try.prog 4 #[.string a, .string b, .int .u16 ver, .slice AB nb cb] w fun e w' => e = .returned (.bool true) ∧ Below w.heap.size w w' := by
  have g1 : (2147483647 : Int) < (a.size : Int) := by omega
  clear h1
  go_enter Try.func4, Try.ntmps4
  go_wp2_with fail
  go_ret
  exact ⟨rfl, Below.refl _ _⟩

set_option maxRecDepth 100000 in
set_option maxHeartbeats 1000000 in
theorem textsE2 (w : World) (ver nb cb : Nat) (a b : ByteArray) (AB : Option Addr) (h1 : ¬ 2147483647 < a.size) (h2 : 2147483647 < b.size) :
    Calls Try.prog 4 #[.string a, .string b, .int .u16 ver, .slice AB nb cb] w fun e w' => e = .returned (.bool true) ∧ Below w.heap.size w w' := by
  have g1 : ¬ (2147483647 : Int) < (a.size : Int) := by omega
  clear h1
  have g2 : (2147483647 : Int) < (b.size : Int) := by omega
  clear h2
  go_enter Try.func4, Try.ntmps4
  go_wp2_with fail
  go_ret
  exact ⟨rfl, Below.refl _ _⟩

set_option maxRecDepth 100000 in
set_option maxHeartbeats 1000000 in
theorem textsE3 (w : World) (ver nb cb : Nat) (a b : ByteArray) (AB : Option Addr) (h1 : ¬ 2147483647 < a.size) (h2 : ¬ 2147483647 < b.size) (h3 : 2147483647 < nb) :
    Calls Try.prog 4 #[.string a, .string b, .int .u16 ver, .slice AB nb cb] w fun e w' => e = .returned (.bool true) ∧ Below w.heap.size w w' := by
  have g1 : ¬ (2147483647 : Int) < (a.size : Int) := by omega
  clear h1
  have g2 : ¬ (2147483647 : Int) < (b.size : Int) := by omega
  clear h2
  have g3 : (2147483647 : Int) < (nb : Int) := by omega
  clear h3
  go_enter Try.func4, Try.ntmps4
  go_wp2_with fail
  go_ret
  exact ⟨rfl, Below.refl _ _⟩

set_option maxRecDepth 100000 in
set_option maxHeartbeats 1000000 in
theorem textsE4 (w : World) (ver nb cb : Nat) (a b : ByteArray) (AB : Option Addr) (h1 : ¬ 2147483647 < a.size) (h2 : ¬ 2147483647 < b.size) (h3 : ¬ 2147483647 < nb) (hs : ¬ (a.size ≤ 100 ∧ b.size ≤ 100)) :
    Calls Try.prog 4 #[.string a, .string b, .int .u16 ver, .slice AB nb cb] w fun e w' => e = .returned (.bool true) ∧ Below w.heap.size w w' := by
  have g1 : ¬ (2147483647 : Int) < (a.size : Int) := by omega
  clear h1
  have g2 : ¬ (2147483647 : Int) < (b.size : Int) := by omega
  clear h2
  have g3 : ¬ (2147483647 : Int) < (nb : Int) := by omega
  clear h3
  have HSH := Lib.hid (fun w g t hW => pkShort2 w g t a b hW)
  rw [decide_eq_false hs] at HSH
  have k0 := (Below.refl w.heap.size w).alloc (Nat.le_refl _) (.cells #[.string a, .string b] 9)
  have hW0 := Whole.new w 9 #[.string a, .string b]
  clear hs
  go_enter Try.func4, Try.ntmps4
  go_wp2_with fail
  refine (HSH.out _ w.heap.size _ hW0).mono ?_
  rintro e wv ⟨rfl, rfl⟩
  go_wp2_with fail
  go_ret
  exact ⟨rfl, k0⟩

set_option maxRecDepth 100000 in
set_option maxHeartbeats 1000000 in
theorem textsE5 (w : World) (ver nb cb : Nat) (a b : ByteArray) (AB : Option Addr) (h1 : ¬ 2147483647 < a.size) (h2 : ¬ 2147483647 < b.size) (h3 : ¬ 2147483647 < nb) (hs : a.size ≤ 100 ∧ b.size ≤ 100) (h9 : ¬ nb ≤ 9) :
    Calls Try.prog 4 #[.string a, .string b, .int .u16 ver, .slice AB nb cb] w fun e w' => e = .returned (.bool true) ∧ Below w.heap.size w w' := by
  have g1 : ¬ (2147483647 : Int) < (a.size : Int) := by omega
  clear h1
  have g2 : ¬ (2147483647 : Int) < (b.size : Int) := by omega
  clear h2
  have g3 : ¬ (2147483647 : Int) < (nb : Int) := by omega
  clear h3
  have g9 : (9 : Int) < (nb : Int) := by omega
  clear h9
  have HSH := Lib.hid (fun w g t hW => pkShort2 w g t a b hW)
  rw [decide_eq_true hs] at HSH
  have k0 := (Below.refl w.heap.size w).alloc (Nat.le_refl _) (.cells #[.string a, .string b] 9)
  have hW0 := Whole.new w 9 #[.string a, .string b]
  clear hs
  go_enter Try.func4, Try.ntmps4
  go_wp2_with fail
  refine (HSH.out _ w.heap.size _ hW0).mono ?_
  rintro e wv ⟨rfl, rfl⟩
  go_wp2_with fail
  go_ret
  exact ⟨rfl, k0⟩

theorem pktexts (w : World) (ver nb cb : Nat) (hver2 : ver < 65536) (a b : ByteArray) (AB : Option Addr) (lb : List UInt8) (hlb : lb.length = nb) (hRB : Rd w 1 AB nb (Lib.byteCells lb)) :
    Calls Try.prog 4 #[.string a, .string b, .int .u16 ver, .slice AB nb cb] w fun e w' => e = .returned (.bool true) ∧ Below w.heap.size w w' := by
  by_cases h1 : 2147483647 < a.size
  · exact textsE1 w ver nb cb a b AB h1
  by_cases h2 : 2147483647 < b.size
  · exact textsE2 w ver nb cb a b AB h1 h2
  by_cases h3 : 2147483647 < nb
  · exact textsE3 w ver nb cb a b AB h1 h2 h3
  by_cases hs : a.size ≤ 100 ∧ b.size ≤ 100
  · by_cases h9 : nb ≤ 9
    · by_cases hv : (50264 : Int) ≤ (50000 : Int) + (ver : Int) % 4501
      · exact textsYes w _ hv ver nb cb rfl hver2 a b hs.1 hs.2 AB lb hlb hRB h9
      · exact textsNo w _ (by omega) ver nb cb rfl hver2 a b hs.1 hs.2 AB lb hlb hRB h9
    · exact textsE5 w ver nb cb a b AB h1 h2 h3 hs h9
  · exact textsE4 w ver nb cb a b AB h1 h2 h3 hs
end Go.Proofs.Ytlemmkcofmofiaa
