/- The walk of the law on nullable columns. Conditions: lengths that an argument can have. -/
import Derived.Test.YtkgjchfbbpabpaaNw
import Derived.Deep.RegionHeld3
namespace Go.Proofs.Ytkgjchfbbpabpaa
open Go.RowKit Go.Deep Go.Lib
set_option linter.unusedVariables false
section
variable {H : Type} {enc : TypeId × Value → H} {P : Program} {w : World} {base : Nat} {held : Bool}
theorem mbs_of_trod {t e q r : TypeId} {f0 f1 : Field} {fuel : Nat} {cs : List Value} {x : DataW H × List MemPlace} (ht : P.underlying t = some (.slice e)) (he : P.underlying e = some (.struct #[f0, f1])) (h0 : f0.type = r ∧ f0.offset = 0) (h1 : f1.type = q ∧ f1.offset = 1) (hr : P.underlying r = some .bool) (hq : P.underlying q = some .string) (ce : P.cellsOf e = 2) (cr : P.cellsOf r = 1) (cq : P.cellsOf q = 1)
    (h : DataW.trod enc P w base (fun _ => true) held fuel t cs = some x) :
    ∃ (A : Option Addr) (n c : Nat) (L : List Mb), cs = [.slice A n c] ∧ n ≤ c ∧ c ≤ maxLen ∧ L.length = n ∧ Rd w 2 A n (mbC L) := by
  rcases open_slice ht h with ⟨rfl, _⟩ | ⟨a, len, cap, m, n, D, Pl, rfl, hb, hl, hm, hmm, _, hx⟩
  · exact ⟨none, 0, 0, [], rfl, Nat.le_refl _, Nat.zero_le _, rfl, Rd.none'⟩
  · simp only [if_true] at hmm
    subst hmm
    rw [ce] at hx
    have hs : ∀ i, i < len → ∃ p : Mb, w.cell? (a.add (i * 2)) = some (.bool p.1) ∧ w.cell? (a.add (i * 2 + 1)) = some (.string p.2) := fun i hi => by
      obtain ⟨cs', c1, c2⟩ := hx i (by omega)
      obtain ⟨_, hlen, hcell⟩ := World.cells?_some c1
      obtain ⟨y0, y1, n2, _, _, g0, g1⟩ := Go.ChangeShapes.trod_struct2 he c2
      match cs', hlen with
      | [u, v], _ =>
        rw [h0.1, h0.2, cr] at g0
        rw [h1.1, h1.2, cq] at g1
        obtain ⟨s0, e0, _⟩ := DataW.trod_bool hr g0
        obtain ⟨s1, e1, _, _⟩ := DataW.trod_string hq g1
        simp at e0 e1
        have k0 := hcell 0 (by decide)
        have k1 := hcell 1 (by decide)
        rw [Addr.add_add] at k0 k1
        exact ⟨(s0, s1), by simpa [e0] using k0, by simpa [e1] using k1⟩
    obtain ⟨Y, hY⟩ := choose_lt (α := Mb) (p := fun i p => w.cell? (a.add (i * 2)) = some (.bool p.1) ∧ w.cell? (a.add (i * 2 + 1)) = some (.string p.2)) hs
    have hget : ∀ i, i < len → ((List.range len).map Y)[i]? = some (Y i) := fun i hi => by rw [List.getElem?_map, List.getElem?_range hi]; rfl
    refine ⟨some a, len, m, (List.range len).map Y, rfl, hl, hm, by simp, by rw [mbC_length]; simp, fun hn => ⟨a, rfl, ?_, fun j u hu => ?_⟩⟩
    · have := cell_in' (hY 0 hn).1
      rwa [blk_add] at this
    · have hj : j < len * 2 := by
        have := (List.getElem?_eq_some_iff.1 hu).1
        rw [mbC_length] at this
        simpa using this
      have hi : j / 2 < len := by omega
      obtain ⟨g0, g1⟩ := mbC_get _ (j / 2) _ (hget (j / 2) hi)
      rcases Nat.mod_two_eq_zero_or_one j with hz | hz
      · have e : j = j / 2 * 2 := by omega
        rw [e] at hu ⊢
        rw [g0] at hu
        injection hu with hu
        rw [← hu]
        exact (hY _ hi).1
      · have e : j = j / 2 * 2 + 1 := by omega
        rw [e] at hu ⊢
        rw [g1] at hu
        injection hu with hu
        rw [← hu]
        exact (hY _ hi).2
end
def vsM (L : List Mb) : List ByteArray := L.map fun p => if p.1 then p.2 else ⟨#[]⟩
theorem vs_step {L : List Mb} {k : Nat} {p : Mb} (h : L[k]? = some p) : (vsM (L.take k)).map Value.string ++ [.string (if p.1 then p.2 else ⟨#[]⟩)] = (vsM (L.take (k + 1))).map Value.string := by rw [List.take_add_one, h]; simp [vsM]
def nulB (L : List Mb) : List UInt8 := nbOfL L ++ ((vsM L).map strB).flatten

set_option maxRecDepth 100000 in
set_option maxHeartbeats 4000000 in
theorem arNullsSpec (w : World) (A : Option Addr) (n c : Nat) (L : List Mb) (hl : L.length = n) (hR : Rd w 2 A n (mbC L)) (hn : n ≤ 1000) (hx : ∀ p ∈ L, p.2.size ≤ 1000) (hb : ((vsM L).map strB).flatten.length ≤ 10000000) :
    Calls Try.prog 22 #[.slice A n c] w fun e w' => OwnRes w 5 (Lib.byteCells (nulB L)) (nulB L).length e w' := by
  obtain ⟨i0, hi0, hz0, hz1, hz2⟩ := info_parts infoStrE
  obtain ⟨u0, hu0, hv0, hv1, hv2⟩ := info_parts infoU8
  have HR := Lib.hid hR
  have HL := Lib.hid hl
  have HST := Lib.hid (fun w1 B d (hz : Rd w1 1 B n ((vsM L).map Value.string)) => stStrings w1 B n d (vsM L) (by rw [vsM, List.length_map]; exact hl) hz (by omega) (fun x hm => by
    obtain ⟨p, hp, rfl⟩ := List.mem_map.1 hm
    have := hx p hp
    by_cases e : p.1 = true
    · rw [if_pos e]; omega
    · rw [if_neg e]; decide) (by omega))
  have HNB := Lib.hid (show Lib.byteCells (nulB L) = Lib.byteCells (nbOfL L) ++ Lib.byteCells ((vsM L).map strB).flatten by rw [nulB, Lib.byteCells_append])
  have HNL := Lib.hid (show (nulB L).length = n + ((vsM L).map strB).flatten.length by rw [nulB, List.length_append, nbOfL, List.length_map, hl])
  clear hl hR hx
  generalize ((vsM L).map strB).flatten = d2 at *
  generalize nulB L = nb at *
  generalize hn2 : d2.length = n2 at *
  have HN2 := Lib.hid hn2
  clear hn2
  go_enter Try.func22, Try.ntmps22
  go_wp2_with fail
  go_loopw [3, 4, 5, 6, 7] (fun a b i _ _ wr => ∃ (k : Nat) (T : Option Addr) (ct : Nat) (V : Option Addr) (cv : Nat), k ≤ n ∧ i = .int .i64 k ∧ a = .slice T k ct ∧ b = .slice V k cv ∧ wr.ownsRow w.heap.size 5 1 (.slice T k ct) k (Lib.byteCells (nbOfL (L.take k))) ∧ wr.ownsRow w.heap.size 9 1 (.slice V k cv) k ((vsM (L.take k)).map Value.string) ∧ Keeps (fun _ => False) w wr) (fun _ _ i _ _ _ => n - (RowKit.intOf i).toNat)
  case atStart => exact ⟨0, none, 0, none, 0, Nat.zero_le _, rfl, rfl, rfl, World.ownsRow_nil w w.heap.size 5 1, World.ownsRow_nil w w.heap.size 9 1, Keeps.refl _ _⟩
  case round =>
    obtain ⟨k, T, ct, V, cv, hk, rfl, rfl, rfl, hT, hV, hK⟩ := hrel
    have HT := Lib.hid hT
    have HV := Lib.hid hV
    have HK := Lib.hid hK
    clear hT hV hK
    by_cases hlt : k < n
    · obtain ⟨ad, ⟨x, y⟩, rfl, hb2, hp, hc1, hc2⟩ := Rd.maybe (HR.out.keeps HK.out (fun _ _ h => h)) HL.out hlt
      dsimp only at hc1 hc2
      have hc3 : wr.cell? { block := (ad.add (k * 2)).block, off := (ad.add (k * 2)).off + 1 } = some (.string y) := by rw [← Addr.add_add] at hc2; exact hc2
      have hs1 := (nul_step hp).1
      have hs2 := vs_step hp
      dsimp only at hs1 hs2
      clear hp hc2
      cases x with
      | false =>
        have HS1 := Lib.hid (show nbOfL (L.take k) ++ [1] = nbOfL (L.take (k + 1)) from hs1)
        have HS2 := Lib.hid (show (vsM (L.take k)).map Value.string ++ [.string ⟨#[]⟩] = (vsM (L.take (k + 1))).map Value.string from hs2)
        clear hs1 hs2
        have K1 := Keeps.refl (fun _ => False) wr
        have K2 := K1.alloc (.cells #[.int .u8 1] 5)
        have hT2 := own_keeps HT.out K2 (fun _ _ h => h)
        have hV2 := own_keeps HV.out K2 (fun _ _ h => h)
        have hK2 := HK.out.trans K2 (fun _ _ h => h)
        have hrd2 : Rd (wr.alloc (.cells #[.int .u8 1] 5)) 1 (some ⟨wr.heap.size, 0, none⟩) 1 [.int .u8 1] := rd_one wr 5 (.int .u8 1)
        go_wp2_with (first
          | (at_builtin
             refine wpList_append_rd _ rfl (.tmp 28) (.tmp 30) _ rfl w.heap.size 9 i0 _ 1 16 Try.underlying33 hi0 hz0 hz1 hz2 rfl Nat.one_pos V cv k _ rfl hV4 (some ⟨w4.heap.size, 0, none⟩) 1 1 [.string ⟨#[]⟩] rfl (rd_one w4 9 _) (one_val _ rfl) (by simp only [maxLen]; omega) (by omega) hK4.size ?_
             intro V6 cv6 w6 o6 hg6 hat6
             have hK6 := hK4.grown hg6 (fun i hi => .inr (hV4.lt i (by rw [ownBlock_slice]; exact hi)).1)
             have hT6 := own_keeps hT4 ((Keeps.refl (fun i => ob V = some i) _).grown hg6 (fun k hk => .inl hk)) (fun z hz h => by have := own_apart hT4 hV4 (by decide); simp only [ownBlock_slice] at this hz; exact this z hz h))
          | (at_builtin
             refine wpList_append_rd _ rfl (.tmp 24) (.tmp 26) _ rfl w.heap.size 5 u0 _ 1 1 Try.underlying25 hu0 hv0 hv1 hv2 rfl Nat.one_pos T ct k _ rfl hT2 (some ⟨wr.heap.size, 0, none⟩) 1 1 [.int .u8 1] rfl hrd2 (one_val _ rfl) (by simp only [maxLen]; omega) (by omega) hK2.size ?_
             intro T4 ct4 w4 o4 hg4 hat4
             have Kg := (Keeps.refl (fun i => ob T = some i) (wr.alloc (.cells #[.int .u8 1] 5))).grown hg4 (fun k hk => .inl hk)
             have hV4a := own_keeps hV2 Kg (fun z hz h => by have := own_apart hV2 hT2 (by decide); simp only [ownBlock_slice] at this hz; exact this z hz h)
             have hK4a := hK2.grown hg4 (fun i hi => .inr (hT2.lt i (by rw [ownBlock_slice]; exact hi)).1)
             have K5 := (Keeps.refl (fun _ => False) w4).alloc (.cells #[.string ⟨#[]⟩] 9)
             have hT4 := own_keeps o4 K5 (fun _ _ h => h)
             have hV4 := own_keeps hV4a K5 (fun _ _ h => h)
             have hK4 := hK4a.trans K5 (fun _ _ h => h)))
        rw [show Lib.byteCells (nbOfL (L.take k)) ++ [.int .u8 1] = Lib.byteCells (nbOfL (L.take (k + 1))) by rw [← HS1.out, Lib.byteCells_append]; rfl] at hT6
        rw [HS2.out] at o6
        have HT6 := Lib.hid hT6
        have HV6 := Lib.hid o6
        have HK6 := Lib.hid hK6
        clear hT6 o6 hK6 hT4 hV4 hK4 hT2 hV2 hK2 hV4a hK4a o4 Kg K1 K2 K5 hrd2
        go_roundw
        case rel => exact ⟨k + 1, T4, ct4, V6, cv6, by omega, by go_num, rfl, rfl, HT6.out, HV6.out, HK6.out⟩
        case measure => (first | (simp [RowKit.intOf]; done) | (simp [RowKit.intOf]; omega))
      | true =>
        have HS1 := Lib.hid (show nbOfL (L.take k) ++ [0] = nbOfL (L.take (k + 1)) from hs1)
        have HS2 := Lib.hid (show (vsM (L.take k)).map Value.string ++ [.string y] = (vsM (L.take (k + 1))).map Value.string from hs2)
        clear hs1 hs2
        have s0 : (fun w' => w'.cell? { block := (ad.add (k * 2)).block, off := (ad.add (k * 2)).off + 1 } = some (.string y)) wr.drew := hc3
        go_wp2_with fail
        go_region_held3 (fun w' => w'.cell? { block := (ad.add (k * 2)).block, off := (ad.add (k * 2)).off + 1 } = some (.string y)) (exact s0) (fail)
        have K1 := (Keeps.refl (fun _ => False) wr).drew
        have K2 := K1.alloc (.cells #[.int .u8 0] 5)
        have hT2 := own_keeps HT.out K2 (fun _ _ h => h)
        have hV2 := own_keeps HV.out K2 (fun _ _ h => h)
        have hK2 := HK.out.trans K2 (fun _ _ h => h)
        have hrd2 : Rd (wr.drew.alloc (.cells #[.int .u8 0] 5)) 1 (some ⟨wr.heap.size, 0, none⟩) 1 [.int .u8 0] := rd_one wr.drew 5 (.int .u8 0)
        go_wp2_with (first
          | (at_builtin
             refine wpList_append_rd _ rfl (.tmp 28) (.tmp 30) _ rfl w.heap.size 9 i0 _ 1 16 Try.underlying33 hi0 hz0 hz1 hz2 rfl Nat.one_pos V cv k _ rfl hV4 (some ⟨w4.heap.size, 0, none⟩) 1 1 [.string y] rfl (rd_one w4 9 _) (one_val _ rfl) (by simp only [maxLen]; omega) (by omega) hK4.size ?_
             intro V6 cv6 w6 o6 hg6 hat6
             have hK6 := hK4.grown hg6 (fun i hi => .inr (hV4.lt i (by rw [ownBlock_slice]; exact hi)).1)
             have hT6 := own_keeps hT4 ((Keeps.refl (fun i => ob V = some i) _).grown hg6 (fun k hk => .inl hk)) (fun z hz h => by have := own_apart hT4 hV4 (by decide); simp only [ownBlock_slice] at this hz; exact this z hz h))
          | (at_builtin
             refine wpList_append_rd _ rfl (.tmp 24) (.tmp 26) _ rfl w.heap.size 5 u0 _ 1 1 Try.underlying25 hu0 hv0 hv1 hv2 rfl Nat.one_pos T ct k _ rfl hT2 (some ⟨wr.heap.size, 0, none⟩) 1 1 [.int .u8 0] rfl hrd2 (one_val _ rfl) (by simp only [maxLen]; omega) (by omega) hK2.size ?_
             intro T4 ct4 w4 o4 hg4 hat4
             have Kg := (Keeps.refl (fun i => ob T = some i) (wr.drew.alloc (.cells #[.int .u8 0] 5))).grown hg4 (fun k hk => .inl hk)
             have hV4a := own_keeps hV2 Kg (fun z hz h => by have := own_apart hV2 hT2 (by decide); simp only [ownBlock_slice] at this hz; exact this z hz h)
             have hK4a := hK2.grown hg4 (fun i hi => .inr (hT2.lt i (by rw [ownBlock_slice]; exact hi)).1)
             have K5 := (Keeps.refl (fun _ => False) w4).alloc (.cells #[.string y] 9)
             have hT4 := own_keeps o4 K5 (fun _ _ h => h)
             have hV4 := own_keeps hV4a K5 (fun _ _ h => h)
             have hK4 := hK4a.trans K5 (fun _ _ h => h)))
        rw [show Lib.byteCells (nbOfL (L.take k)) ++ [.int .u8 0] = Lib.byteCells (nbOfL (L.take (k + 1))) by rw [← HS1.out, Lib.byteCells_append]; rfl] at hT6
        rw [HS2.out] at o6
        have HT6 := Lib.hid hT6
        have HV6 := Lib.hid o6
        have HK6 := Lib.hid hK6
        clear hT6 o6 hK6 hT4 hV4 hK4 hT2 hV2 hK2 hV4a hK4a o4 Kg K1 K2 K5 hrd2
        go_roundw
        case rel => exact ⟨k + 1, T4, ct4, V6, cv6, by omega, by go_num, rfl, rfl, HT6.out, HV6.out, HK6.out⟩
        case measure => (first | (simp [RowKit.intOf]; done) | (simp [RowKit.intOf]; omega))
    · have hkn : k = n := by omega
      subst hkn
      have eT : L.take k = L := List.take_of_length_le (by rw [HL.out]; exact Nat.le_refl _)
      have hT := HT.out
      have hV := HV.out
      rw [eT] at hT hV
      have HT1 := Lib.hid hT
      have HST1 := Lib.hid (HST.out wr V cv (Rd.own hV))
      clear hT hV eT
      go_wp2_with fail
      refine HST1.out.mono ?_
      rintro e w4 ⟨A4, c4, rfl, o4, K4, _⟩
      have hT4 := own_keeps HT1.out K4 (fun _ _ h => h)
      have hK4 := HK.out.trans K4 (fun _ _ h => h)
      go_wp2_with (at_builtin
                   refine wpList_append_rd _ rfl (.tmp 32) (.tmp 34) _ rfl w.heap.size 5 u0 _ 1 1 Try.underlying25 hu0 hv0 hv1 hv2 rfl Nat.one_pos T ct k _ rfl hT4 A4 n2 c4 (Lib.byteCells d2) rfl (Rd.own o4) (byteCells_one d2) (by simp only [maxLen]; omega) (by omega) hK4.size ?_
                   intro T6 ct6 w6 o6 hg6 hat6)
      have hK6 := hK4.grown hg6 (fun i hi => .inr (hT4.lt i (by rw [ownBlock_slice]; exact hi)).1)
      rw [← HNB.out] at o6
      go_ret
      rw [HNL.out]
      exact OwnRes.mk o6 hK6
end Go.Proofs.Ytkgjchfbbpabpaa
