/- A column of arrays of numbers of 32 bits: rows appended, encoded. Conditions: sizes far below the machine's. -/
import Derived.Test.YtoilbojaenfalaaGreatNm
import Derived.Test.YtoilbojaenfalaaGreatEs
namespace Go.Proofs.YtoilbojaenfalaaGreat
open Go.RowKit Go.Lib
set_option linter.unusedVariables false
def offV (ns : List Nat) : List Value := (ends 0 ns).map fun x : Nat => .int .u64 (x : Int)
theorem offV_snoc (ns : List Nat) (x : Nat) : offV (ns ++ [x]) = offV ns ++ [.int .u64 ((ns.sum + x : Nat) : Int)] := by
  rw [offV, ends_snoc, List.map_append, Nat.zero_add, offV]
  rfl
structure NArrAt (w : World) (base ga gs : Nat) (O : Option Addr) (ko : Nat) (A : Option Addr) (c : Nat) (RR : List (List Nat)) : Prop where
  blk : Whole w ga 166 #[.slice O RR.length ko, .iface 53 (.pointer (some ⟨gs, 0, none⟩))]
  off : w.ownsRow base 27 1 (.slice O RR.length ko) RR.length (offV (RR.map List.length))
  col : NumAt w base gs A c RR.flatten
  lo : base ≤ ga
theorem NArrAt.new {w w' : World} {base ga gs ko c : Nat} {O A : Option Addr} {RR : List (List Nat)} (h : NArrAt w base ga gs O ko A c RR) (hk : Keeps (fun _ => False) w w') : NArrAt w' base ga gs O ko A c RR :=
  ⟨h.blk.keeps hk (fun h => h), own_keeps h.off hk (fun _ _ h => h), h.col.new hk, h.lo⟩
def NArrRes (w : World) (base ga gs : Nat) (RR : List (List Nat)) (e : Ending) (w' : World) : Prop := ∃ O' ko A' c', e = .returned (.tuple #[]) ∧ NArrAt w' base ga gs O' ko A' c' RR ∧ Keeps (fun k => base ≤ k) w w'
theorem narr_done {w1 v w3 : World} {base ga gs ko k1 k3 M : Nat} {O A1 O3 : Option Addr} {vals : List Value} {x : Value} {RR : List (List Nat)} {X : List Nat} {Q : List Nat} (hN : NumAt w1 base gs A1 k1 Q) (K : Keeps (fun _ => False) w1 v)
    (hbv : Whole v ga 166 #[.slice O M ko, .iface 53 (.pointer (some ⟨gs, 0, none⟩))]) (hov : v.ownsRow base 27 1 (.slice O M ko) M vals) (hg : v.grownBy w3 (ob O)) (ho3 : w3.ownsRow base 27 1 (.slice O3 (M + 1) k3) (M + 1) (vals ++ [x])) (hlo : base ≤ ga)
    (hQ : (RR ++ [X]).flatten = Q) (hM : (RR ++ [X]).length = M + 1) (hV : offV ((RR ++ [X]).map List.length) = vals ++ [x]) :
    NArrAt (w3.setCell ⟨ga, 0, none⟩ (.slice O3 (M + 1) k3)) base ga gs O3 k3 A1 k1 (RR ++ [X]) ∧ Keeps (fun k => base ≤ k) w1 (w3.setCell ⟨ga, 0, none⟩ (.slice O3 (M + 1) k3)) := by
  have colv := hN.new K
  have nS : ga ≠ gs := hbv.differ colv.blk (by decide)
  have nO : ob O ≠ some ga := by have := own_far hov hbv (by decide); rwa [ownBlock_slice] at this
  have nOS : ob O ≠ some gs := by have := own_far hov colv.blk (by decide); rwa [ownBlock_slice] at this
  have nOA : ∀ k, ob A1 = some k → ob O ≠ some k := by have := own_apart colv.own hov (by decide); simpa only [ownBlock_slice] using this
  have hOlo := hov.lt
  rw [ownBlock_slice] at hOlo
  have K3 : Keeps (fun i => ob O = some i) v w3 := (Keeps.refl _ v).grown hg (fun k hk => .inl hk)
  have col3 := colv.keeps K3 nOS nOA
  have hb3 := hbv.keeps K3 nO
  have K4 := (Keeps.refl (fun i => i = ga) w3).setCell (p := ⟨ga, 0, none⟩) (.inl rfl) (.slice O3 (M + 1) k3)
  have nA1 : ob A1 ≠ some ga := by have := own_far col3.own hb3 (by decide); rwa [ownBlock_slice] at this
  have nO3 : ob O3 ≠ some ga := by have := own_far ho3 hb3 (by decide); rwa [ownBlock_slice] at this
  have col4 := col3.keeps K4 (fun h => nS h.symm) (fun k hk h => nA1 (h ▸ hk))
  have hb4 := hb3.put 0 (.slice O3 (M + 1) k3)
  have o4 := own_keeps ho3 K4 (fun k hk h => by rw [ownBlock_slice] at hk; exact nO3 (h ▸ hk))
  refine ⟨⟨?_, ?_, ?_, hlo⟩, ?_⟩
  · rw [hM]; exact hb4
  · rw [hM, hV]; exact o4
  · rw [hQ]; exact col4
  · refine ((K.mono (S' := fun k => base ≤ k) (fun _ _ h => h.elim)).trans K3 (fun i _ h => (hOlo i h).1)).trans K4 (fun i _ h => ?_)
    have h' : i = ga := h
    omega
set_option maxRecDepth 100000 in
set_option maxHeartbeats 4000000 in
theorem narrAppend (w : World) (base ga gs : Nat) (O : Option Addr) (ko : Nat) (A : Option Addr) (c : Nat) (RR : List (List Nat)) (E : Option Addr) (n k0 : Nat) (X : List Nat) (hC : NArrAt w base ga gs O ko A c RR) (hL : RR.flatten.length ≤ 10000) (hr : RR.length ≤ 10000) (hl : X.length = n) (hR : Rd w 1 E n (nv X)) (hnn : n ≤ 10000) :
    Calls Tryz.prog 86 #[.pointer (some ⟨ga, 0, none⟩), .slice E n k0] w fun e w' => NArrRes w base ga gs (RR ++ [X]) e w' := by
  obtain ⟨i0, hi0, hz0, hz1, hz2⟩ := info_parts infoU64E
  have hlt := hC.blk.lt
  have hltS := hC.col.blk.lt
  have hbase : base ≤ w.heap.size := by have := hC.lo; omega
  have nS : ga ≠ gs := hC.blk.differ hC.col.blk (by decide)
  have nA : ob A ≠ some ga := by have := own_far hC.col.own hC.blk (by decide); rwa [ownBlock_slice] at this
  have nO : ob O ≠ some ga := by have := own_far hC.off hC.blk (by decide); rwa [ownBlock_slice] at this
  have nOS : ob O ≠ some gs := by have := own_far hC.off hC.col.blk (by decide); rwa [ownBlock_slice] at this
  have nOA : ∀ k, ob O = some k → ob A ≠ some k := by have := own_apart hC.off hC.col.own (by decide); simpa only [ownBlock_slice] using this
  have c1 : w.cell? ⟨ga, 1, none⟩ = some (.iface 53 (.pointer (some ⟨gs, 0, none⟩))) := hC.blk.cell 1
  have HAP := Lib.hid (numAppendArr w base gs A c RR.flatten E n k0 X hC.col (by omega) (by omega) hl hR)
  have HFL := Lib.hid (show RR.flatten ++ X = (RR ++ [X]).flatten by simp)
  have hcnt : (RR ++ [X]).flatten.length = RR.flatten.length + n := by rw [List.flatten_append, List.length_append]; simp [hl]
  have HLN := Lib.hid (show (RR ++ [X]).length = RR.length + 1 by simp)
  have HOV := Lib.hid (show offV ((RR ++ [X]).map List.length) = offV (RR.map List.length) ++ [.int .u64 ((RR.flatten.length + n : Nat) : Int)] by rw [List.map_append, List.map_cons, List.map_nil, offV_snoc, hl, List.length_flatten])
  have HB := Lib.hid (show Whole w ga 166 #[.slice O RR.length ko, .iface 53 (.pointer (some ⟨gs, 0, none⟩))] from hC.blk)
  have HO := Lib.hid (show w.ownsRow base 27 1 (.slice O RR.length ko) RR.length (offV (RR.map List.length)) from hC.off)
  have HLO := Lib.hid hC.lo
  have HCLO := Lib.hid hC.col.lo
  have HALO := Lib.hid hC.col.lt.2
  rw [HFL.out] at HAP
  have HCNT := Lib.hid hcnt
  clear hC hl hR hcnt
  generalize hQ : (RR ++ [X]).flatten = Q at *
  have HQ := Lib.hid hQ
  generalize hF : RR.flatten.length = f at *
  generalize hM : RR.length = M at *
  clear hQ hF hM
  obtain ⟨fn, hfn⟩ : ∃ fn, fn = f + n := ⟨_, rfl⟩
  rw [← hfn] at HOV HCNT
  have hfn1 : fn ≤ 20000 := by omega
  have hwr : IntKind.u64.wrap (fn : Int) = (fn : Int) := IntWalk.u64_in _ (by omega)
  have HFN := Lib.hid hfn
  clear hfn
  go_enter Tryz.func86, Tryz.ntmps86
  go_wp2_with fail
  refine HAP.out.mono ?_
  rintro e w1 ⟨A1, k1, rfl, hP, hPK, hPR⟩
  have hs1 : ∀ i, i = ga ∨ ob O = some i → ¬ (i = gs ∨ ob A = some i) := by
    rintro i (rfl | h) (h2 | h2)
    · exact nS h2
    · exact nA h2
    · exact nOS (h2 ▸ h)
    · exact nOA i h h2
  have hb1 := HB.out.keeps hPK (hs1 _ (.inl rfl))
  have ho1 := own_keeps HO.out hPK (fun k hk => hs1 k (.inr (by rw [ownBlock_slice] at hk; exact hk)))
  have e0 : w1.cell? ⟨ga, 0, none⟩ = some (.slice O M ko) := hb1.cell 0
  have e1 : w1.cell? ⟨ga, 1, none⟩ = some (.iface 53 (.pointer (some ⟨gs, 0, none⟩))) := hb1.cell 1
  have f0 : w1.frozen? ⟨ga, 0, none⟩ = false := hb1.frozen 0
  have hl1 := hb1.lt
  have hq := hP.blk
  rw [HCNT.out] at hq
  have q0 : w1.cell? ⟨gs, 0, none⟩ = some (.slice A1 fn k1) := hq.cell 0
  have hlq := hq.lt
  have ho1d := own_keeps ho1 (Keeps.refl (fun _ => False) w1).drew (fun _ _ h => h)
  have hme : (method 499 53 (.pointer (some ⟨gs, 0, none⟩)) "Rows").run Tryz.prog w1.drew = .ok (111, .slice A1 fn k1) w1.drew := mNmRows hq.drew _
  have KW : Keeps (fun k => base ≤ k) w w1 := hPK.mono (fun i _ h => by
    rcases h with h | h
    · have := HCLO.out; omega
    · exact (HALO.out i h).1)
  have HKW := Lib.hid KW
  have HP := Lib.hid hP
  have hsz := KW.size
  clear hP hq hs1 c1 hPK hPR KW
  go_wp2_with fail
  go_region_law (first
    | (refine step_append_rd _ rfl (.tmp 14) (.tmp 21) _ rfl base 27 i0 _ 1 8 Tryz.underlying144 hi0 hz0 hz1 hz2 rfl Nat.one_pos O ko M _ rfl ho2a (some ⟨w2.heap.size, 0, none⟩) 1 1 [.int .u64 (fn : Int)] rfl (rd_one w2 27 _) (one_val _ rfl) (by simp only [maxLen]; omega) (by omega) hba ?_
       intro O3 k3 w3 o3 hg3 hat3
       have hb3 := hb2a.grown hg3 (Ne.symm nO)
       have e30 : w3.cell? ⟨ga, 0, none⟩ = some (.slice O M ko) := hb3.cell 0
       have f30 : w3.frozen? ⟨ga, 0, none⟩ = false := hb3.frozen 0
       have hl3 := hb3.lt)
    | (go_simp
       go_at_call 111
       refine (numRowsV _ _ _ _).mono ?_
       rintro e w2 ⟨rfl, K2⟩
       have hb2 := hb1.drew.keeps K2 (fun h => h)
       have ho2 := own_keeps ho1d K2 (fun _ _ h => h)
       have K2a := (Keeps.refl (fun _ => False) w2).alloc (.cells #[.int .u64 (fn : Int)] 27)
       have hb2a := hb2.keeps K2a (fun h => h)
       have ho2a := own_keeps ho2 K2a (fun _ _ h => h)
       have hba : base ≤ (World.heap (w2.alloc (.cells #[.int .u64 (fn : Int)] 27))).size := by have h1 := hsz; have h2 := K2.size; have h3 := K2a.size; simp at h2; omega
       have e20 : w2.cell? ⟨ga, 0, none⟩ = some (.slice O M ko) := hb2.cell 0
       have hl2 := hb2.lt))
  all_goals
    have HD := Lib.hid (narr_done (RR := RR) (X := X) HP.out (((Keeps.refl (fun _ => False) w1).drew.trans K2 (fun _ _ h => h)).trans K2a (fun _ _ h => h)) hb2a ho2a hg3 o3 HLO.out HQ.out HLN.out HOV.out)
    go_end0
    exact ⟨O3, k3, A1, k1, rfl, HD.out.1, HKW.out.trans HD.out.2 (fun _ _ h => h)⟩
end Go.Proofs.YtoilbojaenfalaaGreat
