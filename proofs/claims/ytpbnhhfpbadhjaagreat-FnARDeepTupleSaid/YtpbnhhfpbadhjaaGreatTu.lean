/- Rows of strings laid into a column of arrays all at once. Conditions: sizes far below the machine's; the rows lie below the column. -/
import Derived.Test.YtpbnhhfpbadhjaaGreatEs
import Derived.Test.YtpbnhhfpbadhjaaGreatOpen
import Derived.Test.YtpbnhhfpbadhjaaGreatArS
import Derived.Deep.RegionLaw
namespace Go.Proofs.YtpbnhhfpbadhjaaGreat
open Go.RowKit Go.Lib
set_option linter.unusedVariables false
theorem ArrAt.lowT {w : World} {base ga gs ko c d : Nat} {O A B : Option Addr} {RR : List (List ByteArray)} (h : ArrAt w base ga gs O ko A c B d RR) : ∀ k, ArrS ga gs O A B k → base ≤ k := by
  have h1 := h.off.lt
  have h2 := h.col.rowsLo
  rw [ownBlock_slice] at h1
  rintro k (hk | hk | hk | hk | hk)
  · rw [hk]; exact h.lo
  · exact (h1 k hk).1
  · rw [hk]; exact h.col.lo
  · exact (h2.1 k hk).1
  · exact (h2.2 k hk).1
theorem Rd.keepsIf {w w' : World} {S : Nat → Prop} {size n : Nat} {A : Option Addr} {xs : List Value} (h : Rd w size A n xs) (hk : Keeps S w w') (hS : 0 < n → ∀ k, ob A = some k → ¬ S k) : Rd w' size A n xs := by
  rcases Nat.eq_zero_or_pos n with rfl | h0
  · have h1 := h.1
    rw [Nat.zero_mul, List.length_eq_zero_iff] at h1
    subst h1
    exact Rd.none'
  · exact h.keeps hk (hS h0)
set_option maxRecDepth 100000 in
set_option maxHeartbeats 4000000 in
theorem arrAppendArr (wl w : World) (base ga gs : Nat) (E : Option Addr) (n k0 : Nat) (LL : List (List ByteArray)) (hC : ArrAt w base ga gs none 0 none 0 none 0 []) (hl : LL.length = n) (hR : RowsOf wl E LL) (hKl : Keeps (fun _ => False) wl w) (hbl : wl.heap.size ≤ base)
    (hx : ∀ L ∈ LL, ∀ x ∈ L, x.size ≤ 1000) (hf : LL.flatten.length ≤ 1000) (hn : n ≤ 1000) :
    Calls Tryz.prog 32 #[.pointer (some ⟨ga, 0, none⟩), .slice E n k0] w fun e w' => ArrRes w base ga gs none none none LL e w' := by
  obtain ⟨i0, hi0, hz0, hz1, hz2⟩ := info_parts infoU64E
  have HR := Lib.hid hR
  have HL := Lib.hid hl
  have HX := Lib.hid hx
  have HC := Lib.hid hC
  have HF := Lib.hid hf
  have HKL := Lib.hid hKl
  clear hR hl hx hC hf hKl
  go_enter Tryz.func32, Tryz.ntmps32
  go_wp2_with fail
  go_loopw [8, 5] (fun i _ wr => ∃ (k : Nat) (O : Option Addr) (ko : Nat) (A : Option Addr) (c : Nat) (B : Option Addr) (d : Nat), k ≤ n ∧ i = .int .i64 k ∧ ArrPut w wr base ga gs none none none O ko A c B d (LL.take k)) (fun i _ _ => n - (RowKit.intOf i).toNat)
  case atStart => exact ⟨0, none, 0, none, 0, none, 0, Nat.zero_le _, rfl, ArrPut.refl HC.out⟩
  case round =>
    obtain ⟨k, O, ko, A, c, B, d, hk, rfl, hP⟩ := hrel
    have HP := Lib.hid hP
    clear hP
    by_cases hlt : k < n
    · obtain ⟨L, hL⟩ : ∃ L, LL[k]? = some L := ⟨_, List.getElem?_eq_getElem (by rw [HL.out]; exact hlt)⟩
      have HT := Lib.hid (show LL.take (k + 1) = LL.take k ++ [L] by rw [List.take_add_one, hL]; rfl)
      obtain ⟨ad, Bv, dv, rfl, hlb, hcell, hRd⟩ := HR.out.at' hL
      have hKr : Keeps (fun _ => False) wl wr := HKL.out.trans HP.out.keeps (by
        rintro q hq (h | h | h | h | h)
        · have := HC.out.lo; omega
        · cases h
        · have := HC.out.col.lo; omega
        · cases h
        · cases h)
      have hcr : wr.cell? (ad.add k) = some (.slice Bv L.length dv) := (hKr.cell (by rw [blk_add]; exact hlb) (fun h => h)).trans hcell
      have hRr := hRd.keeps hKr (fun _ _ h => h)
      have hEl : 0 < L.length → ∀ q, ob Bv = some q → q < base := fun h0 q hq => by
        obtain ⟨ad2, e, hb2, _⟩ := hRd.2 h0
        rw [e] at hq
        injection hq with hq
        have hq2 : ad2.block = q := hq
        omega
      have hfk : (LL.take k).flatten.length ≤ 1000 := Nat.le_trans (flat_le LL k) HF.out
      have hLk : L.length ≤ 1000 := by
        have h1 := Nat.le_trans (flat_le LL (k + 1)) HF.out
        rw [HT.out, List.flatten_append, List.length_append] at h1
        simp at h1
        omega
      have hsk : ((LL.take k).flatten.map sl).flatten.length ≤ 10000000 := by
        have h1 := flat_map_sl [] ((LL.take k).flatten) (LL.take k).flatten.length (fun x hx => by
          obtain ⟨M, hM, hxM⟩ := List.mem_flatten.1 hx
          exact HX.out M (List.mem_of_mem_take hM) x hxM)
        rw [List.take_length, List.nil_append] at h1
        simp only [List.flatten_nil, List.length_nil, Nat.zero_add] at h1
        omega
      have hCk := HP.out.at'
      have hlt1 := hCk.blk.lt
      have hltS := hCk.col.blk.lt
      have nS : ga ≠ gs := hCk.blk.differ hCk.col.blk (by decide)
      have nA : ob A ≠ some ga := by have := own_far hCk.col.buf hCk.blk (by decide); rwa [ownBlock_slice] at this
      have nB : ob B ≠ some ga := by have := own_far hCk.col.pos hCk.blk (by decide); rwa [ownBlock_slice] at this
      have nO : ob O ≠ some ga := by have := own_far hCk.off hCk.blk (by decide); rwa [ownBlock_slice] at this
      have nOS : ob O ≠ some gs := by have := own_far hCk.off hCk.col.blk (by decide); rwa [ownBlock_slice] at this
      have nOA : ∀ k, ob O = some k → ob A ≠ some k := by have := own_apart hCk.off hCk.col.buf (by decide); simpa only [ownBlock_slice] using this
      have nOB : ∀ k, ob O = some k → ob B ≠ some k := by have := own_apart hCk.off hCk.col.pos (by decide); simpa only [ownBlock_slice] using this
      have c1 : wr.cell? ⟨ga, 1, none⟩ = some (.iface 56 (.pointer (some ⟨gs, 0, none⟩))) := hCk.blk.cell 1
      have HAP := Lib.hid (colAppendArr wr base gs A c B d ((LL.take k).flatten.map sl) Bv L.length dv L hCk.col hsk (by rw [List.length_map]; omega) rfl hRr (fun h0 q hq => by
        have h1 := hEl h0 q hq
        have h2 := hCk.lowT
        exact ⟨fun h => by have := h2 q (.inr (.inr (.inl h))); omega, fun h => by have := h2 q (.inr (.inr (.inr (.inl h)))); omega, fun h => by have := h2 q (.inr (.inr (.inr (.inr h)))); omega⟩) (HX.out L (List.mem_of_getElem? hL)) (by omega))
      have HFL := Lib.hid (show (LL.take k).flatten.map sl ++ L.map sl = ((LL.take k ++ [L]).flatten).map sl by simp)
      have hcnt : ((LL.take k ++ [L]).flatten.map sl).length = (LL.take k).flatten.length + L.length := by rw [List.length_map, List.flatten_append, List.length_append]; simp
      have HLN := Lib.hid (show (LL.take k ++ [L]).length = (LL.take k).length + 1 by simp)
      have HOV := Lib.hid (show offVals (LL.take k ++ [L]) = offVals (LL.take k) ++ [.int .u64 (((LL.take k).flatten.length + L.length : Nat) : Int)] by rw [offVals_snoc])
      have HB := Lib.hid (show Whole wr ga 126 #[.slice O (LL.take k).length ko, .iface 56 (.pointer (some ⟨gs, 0, none⟩))] from hCk.blk)
      have HO := Lib.hid (show wr.ownsRow base 127 1 (.slice O (LL.take k).length ko) (LL.take k).length (offVals (LL.take k)) from hCk.off)
      have HLW := Lib.hid hCk.lo
      have hbase : base ≤ wr.heap.size := by have := hCk.lo; omega
      rw [HFL.out] at HAP
      have HCNT := Lib.hid hcnt
      have hMk : (LL.take k).length ≤ 1000 := by rw [List.length_take]; omega
      clear hRd hcell hL hcnt hsk hCk hRr hEl hKr
      generalize hQ : (LL.take k ++ [L]).flatten.map sl = Q at *
      have HQ := Lib.hid hQ
      generalize hF : (LL.take k).flatten.length = f at *
      generalize hM : (LL.take k).length = M at *
      clear hQ hF hM
      obtain ⟨fn, hfn⟩ : ∃ fn, fn = f + L.length := ⟨_, rfl⟩
      rw [← hfn] at HOV HCNT
      have hfn1 : fn ≤ 20000 := by omega
      have hwr : IntKind.u64.wrap (fn : Int) = (fn : Int) := IntWalk.u64_in _ (by omega)
      clear hfn
      go_wp2_with fail
      refine HAP.out.mono ?_
      rintro e w1 ⟨A1, k1, B1, d1, rfl, hP⟩
      have hs1 : ∀ i, i = ga ∨ ob O = some i → ¬ (i = gs ∨ ob A = some i ∨ ob B = some i) := by
        rintro i (rfl | h) (h2 | h2 | h2)
        · exact nS h2
        · exact nA h2
        · exact nB h2
        · exact nOS (h2 ▸ h)
        · exact nOA i h h2
        · exact nOB i h h2
      have hb1 := HB.out.keeps hP.keeps (hs1 _ (.inl rfl))
      have ho1 := own_keeps HO.out hP.keeps (fun k hk => hs1 k (.inr (by rw [ownBlock_slice] at hk; exact hk)))
      have e0 : w1.cell? ⟨ga, 0, none⟩ = some (.slice O M ko) := hb1.cell 0
      have e1 : w1.cell? ⟨ga, 1, none⟩ = some (.iface 56 (.pointer (some ⟨gs, 0, none⟩))) := hb1.cell 1
      have f0 : w1.frozen? ⟨ga, 0, none⟩ = false := hb1.frozen 0
      have hl1 := hb1.lt
      have hq := hP.at'.blk
      rw [HCNT.out] at hq
      have q0 : w1.cell? ⟨gs, 0, none⟩ = some (.slice A1 Q.flatten.length k1) := hq.cell 0
      have q1 : w1.cell? ⟨gs, 1, none⟩ = some (.slice B1 fn d1) := hq.cell 1
      have hlq := hq.lt
      have ho1d := own_keeps ho1 (Keeps.refl (fun _ => False) w1).drew (fun _ _ h => h)
      have hme : (method 469 56 (.pointer (some ⟨gs, 0, none⟩)) "Rows").run Tryz.prog w1.drew = .ok (144, .agg #[.slice A1 Q.flatten.length k1, .slice B1 fn d1]) w1.drew := mRows hq.drew _
      have HP1 := Lib.hid hP
      clear hP hq hs1 c1
      go_wp2_with fail
      go_region_law (first
        | (refine step_append_rd _ rfl (.tmp 22) (.tmp 29) _ rfl base 127 i0 _ 1 8 Tryz.underlying108 hi0 hz0 hz1 hz2 rfl Nat.one_pos O ko M _ rfl ho2a (some ⟨w2.heap.size, 0, none⟩) 1 1 [.int .u64 (fn : Int)] rfl (rd_one w2 127 _) (one_val _ rfl) (by simp only [maxLen]; omega) (by omega) hba2 ?_
           intro O3 k3 w3 o3 hg3 hat3
           have hb3 := hb2a.grown hg3 (Ne.symm nO)
           have e30 : w3.cell? ⟨ga, 0, none⟩ = some (.slice O M ko) := hb3.cell 0
           have f30 : w3.frozen? ⟨ga, 0, none⟩ = false := hb3.frozen 0
           have hl3 := hb3.lt)
        | (go_simp
           go_at_call 144
           refine (colRowsV _ _ _ _ _ _ _).mono ?_
           rintro e w2 ⟨rfl, K2⟩
           have hb2 := hb1.drew.keeps K2 (fun h => h)
           have ho2 := own_keeps ho1d K2 (fun _ _ h => h)
           have K2a := (Keeps.refl (fun _ => False) w2).alloc (.cells #[.int .u64 (fn : Int)] 127)
           have hb2a := hb2.keeps K2a (fun h => h)
           have ho2a := own_keeps ho2 K2a (fun _ _ h => h)
           have hba2 : base ≤ (World.heap (w2.alloc (.cells #[.int .u64 (fn : Int)] 127))).size := by have h1 := HP1.out.keeps.size; have h2 := K2.size; have h3 := K2a.size; simp at h2; omega
           have e20 : w2.cell? ⟨ga, 0, none⟩ = some (.slice O M ko) := hb2.cell 0
           have hl2 := hb2.lt))
      all_goals
        have HD := Lib.hid (arr_done (RR := LL.take k) (X := L) HP1.out (((Keeps.refl (fun _ => False) w1).drew.trans K2 (fun _ _ h => h)).trans K2a (fun _ _ h => h)) hb2a ho2a hg3 o3 hat3 HLW.out HQ.out HLN.out HOV.out)
        go_wp2_with fail
        go_roundw
        case rel => exact ⟨k + 1, O3, k3, A1, k1, B1, d1, by omega, by go_num, by rw [HT.out]; exact HP.out.trans HD.out⟩
        case measure => (first | (simp [RowKit.intOf]; done) | (simp [RowKit.intOf]; omega))
    · have hkn : k = n := by omega
      subst hkn
      have hfin := HP.out
      rw [List.take_of_length_le (by rw [HL.out]; exact Nat.le_refl _)] at hfin
      have HFIN := Lib.hid hfin
      clear hfin
      go_wp2_with fail
      go_end0
      exact ⟨O, ko, A, c, B, d, rfl, HFIN.out⟩
end Go.Proofs.YtpbnhhfpbadhjaaGreat
