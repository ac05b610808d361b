/- The law of FnARReadQBit. Conditions: lengths that an argument can have. -/
import Derived.Test.YtfkokngjclaikaaVi
import Derived.Test.YtfkokngjclaikaaRaw
import Derived.Test.YtfkokngjclaikaaRow
import Derived.Deep.RegionLaw
import Derived.Deep.AppendLies
namespace Go.Proofs.Ytfkokngjclaikaa
open Go.RowKit Go.Lib
set_option linter.unusedVariables false
theorem stTailQ (w : World) (A : Option Addr) (n c : Nat) (hc : n ≤ c) (hn : n ≤ 9223372036854775807) :
    Calls Try.prog 6 #[.slice A n c] w fun e w' => e = .returned (.slice A (min n 40) c) ∧ w' = w := by
  go_enter Try.func6, Try.ntmps6
  by_cases h : 40 < n
  · have h1 : min n 40 = 40 := by omega
    have h2 : ((40 : Int) < (n : Int)) = True := by simp; omega
    go_wp2_with fail
    go_ret
    rw [h1]
    exact ⟨rfl, rfl⟩
  · have h1 : min n 40 = n := by omega
    have h2 : ((40 : Int) < (n : Int)) = False := by simp; omega
    go_wp2_with fail
    go_ret
    rw [h1]
    exact ⟨rfl, rfl⟩
theorem Rd.firstQ {w : World} {n k : Nat} {A : Option Addr} {xs : List Value} (h : Rd w 1 A n xs) (hk : k ≤ n) : Rd w 1 A k (xs.take k) := by
  have hl := h.1
  refine ⟨by rw [List.length_take, hl, Nat.min_eq_left (by omega)]; omega, fun h0 => ?_⟩
  obtain ⟨ad, h1, h2, h3⟩ := h.2 (by omega)
  exact ⟨ad, h1, h2, fun j u hu => h3 j u (by rw [List.getElem?_take] at hu; split at hu; exact hu; cases hu)⟩
theorem rd_whole8 {w : World} {g T : Nat} {f : Nat → Nat} (h : Whole w g 5 (fcells T f)) : Rd w 1 (some ⟨g, 0, none⟩) T (fcells T f).toList :=
  ⟨by rw [Array.length_toList, fcells_size, Nat.mul_one], fun _ => ⟨_, rfl, h.lt, fun j u hu => by rw [add_lit', Nat.zero_add, h.cell j, ← Array.getElem?_toList]; exact hu⟩⟩
/-- Row r while the first i rows, and the first k numbers of row i, are made halves. -/
def halfW (n i k r : Nat) (V : List Nat) : List Nat := (List.range n).map fun j => if r < i ∨ (r = i ∧ j < k) then half (V.getD j 0) * 65536 else V.getD j 0
theorem halfW_start {n r : Nat} {V : List Nat} (h : V.length = n) : halfW n 0 0 r V = V := by
  have h2 := range_getD h (fun x => x)
  simp only [List.map_id'] at h2
  rw [halfW]
  conv => rhs; rw [← h2]
  exact List.map_congr_left fun j _ => if_neg (by omega)
theorem halfW_next {n i r : Nat} {V : List Nat} : halfW n i n r V = halfW n (i + 1) 0 r V := by
  refine List.map_congr_left fun j hj => ?_
  have hj := List.mem_range.1 hj
  by_cases h : r < i ∨ (r = i ∧ j < n)
  · rw [if_pos h, if_pos (by omega)]
  · rw [if_neg h, if_neg (by omega)]
theorem halfW_end {n M r : Nat} {V : List Nat} (h : V.length = n) (hr : r < M) : halfW n M 0 r V = V.map (eOut 0) := by
  rw [← range_getD h (eOut 0), halfW]
  exact List.map_congr_left fun j _ => by rw [if_pos (by omega)]; rfl
theorem halfW_set {n i k : Nat} {V : List Nat} (hk : k < n) : (halfW n i k i V).set k (half (V.getD k 0) * 65536) = halfW n i (k + 1) i V := by
  apply List.ext_getElem?
  intro j
  rw [List.getElem?_set]
  by_cases hj : j < n
  · have e1 : ∀ t, (halfW n i t i V)[j]? = some (if i < i ∨ (i = i ∧ j < t) then half (V.getD j 0) * 65536 else V.getD j 0) := fun t => by
      rw [halfW, List.getElem?_map, List.getElem?_range hj]; rfl
    have hl : (halfW n i k i V).length = n := by simp [halfW]
    rw [e1, e1, hl]
    by_cases h : k = j
    · subst h; rw [if_pos rfl, if_pos hk, if_pos (by omega)]
    · rw [if_neg h]
      by_cases h2 : j < k
      · rw [if_pos (by omega), if_pos (by omega)]
      · rw [if_neg (by omega), if_neg (by omega)]
  · have hl : ∀ t, (halfW n i t i V)[j]? = none := fun t => List.getElem?_eq_none (by simp [halfW]; omega)
    rw [hl, hl]
    split
    · rename_i h
      subst h
      rw [if_neg (by simp [halfW]; omega)]
    · rfl
theorem VecsAt.put {w : World} {base : Nat} {T : Option Addr} {M ct n : Nat} {bs : List Nat} {U : List (List Nat)} (h : VecsAt w base T M ct n bs U) {i b k x : Nat} {V : List Nat} (hb : bs[i]? = some b) (hV : U[i]? = some V) : VecsAt (w.setCell ⟨b, k, none⟩ (.int .u32 (x : Int))) base T M ct n bs (U.set i (V.set k x)) := by
  obtain ⟨h1, h2, h3⟩ := h.rows i b V hb hV
  have K : Keeps (fun j => j = b) w (w.setCell ⟨b, k, none⟩ (.int .u32 (x : Int))) := (Keeps.refl (fun j => j = b) w).setCell (p := ⟨b, k, none⟩) (.inl rfl) _
  have hfar := own_far h.outer h3 (by decide)
  rw [ownBlock_slice] at hfar
  refine ⟨own_keeps h.outer K (fun j hj e => by rw [ownBlock_slice] at hj; exact hfar (by rw [hj, e])), h.lb, by rw [List.length_set]; exact h.lv, h.inc, fun j b' V' g1 g2 => ?_⟩
  by_cases hj : j = i
  · subst hj
    rw [hb] at g1
    injection g1 with g1
    subst g1
    rw [List.getElem?_set, if_pos rfl, if_pos (List.getElem?_eq_some_iff.1 hV).1] at g2
    injection g2 with g2
    subst g2
    refine ⟨h1, by rw [List.length_set]; exact h2, ?_⟩
    have hp := h3.put k (.int .u32 (x : Int))
    rw [ucells_put] at hp
    rw [ucells_congr (g := fun j => if j = k then x else V.getD j 0) (fun j hj => ?_)]
    · exact hp
    · by_cases hjk : j = k
      · subst hjk; rw [if_pos rfl]; simp [h2, hj]
      · rw [if_neg hjk]; simp [Ne.symm hjk]
  · rw [List.getElem?_set, if_neg (Ne.symm hj)] at g2
    obtain ⟨g3, g4, g5⟩ := h.rows j b' V' g1 g2
    refine ⟨g3, g4, g5.keeps K (fun e => hj ?_)⟩
    subst e
    obtain ⟨l1, e1⟩ := List.getElem?_eq_some_iff.1 g1
    obtain ⟨l2, e2⟩ := List.getElem?_eq_some_iff.1 hb
    have hp := List.pairwise_iff_getElem.1 h.inc
    rcases Nat.lt_trichotomy j i with hl | hl | hl
    · have := hp j i l1 l2 hl; omega
    · exact hl
    · have := hp i j l2 l1 hl; omega
theorem flat_le2 (m : Nat) : ∀ (LL : List (List Nat)), (∀ L ∈ LL, L.length ≤ m) → LL.flatten.length ≤ LL.length * m
  | [], _ => by simp
  | L :: r, h => by
    have h1 := h L (List.mem_cons_self ..)
    have h2 := flat_le2 m r fun X hX => h X (List.mem_cons_of_mem _ hX)
    rw [List.flatten_cons, List.length_append, List.length_cons, Nat.add_mul, Nat.one_mul]
    omega
theorem out_same {e : Nat} (he : e ≠ 0) (VL : List (List Nat)) : (VL.map fun X => X.map (eOut e)) = VL := by
  have h1 : ∀ x, eOut e x = x := fun x => by rw [eOut, if_neg he]
  have h2 : (fun X : List Nat => X.map (eOut e)) = id := funext fun X => by
    rw [show eOut e = id from funext h1, List.map_id]; rfl
  rw [h2, List.map_id]
set_option maxRecDepth 100000 in
set_option maxHeartbeats 8000000 in
theorem qbWalk (w : World) (a b : Nat) (ha : a < 256) (hb : b < 256) (A : Option Addr) (nl cl : Nat) (LL : List (List Nat)) (hl : LL.length = nl) (hR : RowsIn w A LL) (hnl : nl ≤ 9223372036854775807) (hi : ∀ X ∈ LL, X.length ≤ 9223372036854775807) (hx : ∀ X ∈ LL, ∀ x ∈ X, x < 4294967296)
    (B : Option Addr) (nt ct : Nat) (t : List UInt8) (ht : t.length = nt) (hRt : Rd w 1 B nt (Lib.byteCells t)) (htc : nt ≤ ct) (htn : nt ≤ 9223372036854775807) :
    Calls Try.prog 3 #[.int .u8 (a : Int), .int .u8 (b : Int), .slice A nl cl, .slice B nt ct] w fun e w' => e = .returned (.bool true) ∧ Below w.heap.size w w' := by
  obtain ⟨e, hae⟩ : ∃ e, a % 3 = e := ⟨_, rfl⟩
  obtain ⟨n, hbn⟩ : ∃ n, 1 + b % 20 = n := ⟨_, rfl⟩
  obtain ⟨nb, hnb⟩ : ∃ nb, nb = (n + 7) / 8 := ⟨_, rfl⟩
  have he3 : e < 3 := by omega
  have hn0 : 0 < n := by omega
  have hn20 : n ≤ 20 := by omega
  have HF := Lib.hid (fits3 w A nl cl LL hl hR hnl)
  have HAV0 := arVectors w a b e n ha hb hae hbn A nl cl LL hl hR hnl hi hx
  have HTL := Lib.hid (fun w' => stTailQ w' B nt ct htc htn)
  have hvok := vec_ok hn0 LL hx
  have hRt40 : Rd w 1 B (min nt 40) (Lib.byteCells (t.take 40)) := by
    have h := hRt.firstQ (k := min nt 40) (by omega)
    rwa [show (Lib.byteCells t).take (min nt 40) = Lib.byteCells (t.take 40) by
      rw [Lib.byteCells, ← List.map_take, Lib.byteCells]
      congr 1
      rw [← ht, List.take_eq_take_iff]
      omega] at h
  have htl : (t.take 40).length = min nt 40 := by rw [List.length_take, ht]; omega
  have hm40 : min nt 40 ≤ 40 := by omega
  generalize t.take 40 = d at *
  generalize min nt 40 = m2 at *
  have hM9 : (LL.take 8).length + 1 ≤ 9 := by rw [List.length_take]; omega
  have hVlen : ((LL.take 8).map (fixv n) ++ [lastv n]).length = (LL.take 8).length + 1 := by simp
  generalize (LL.take 8).map (fixv n) ++ [lastv n] = VL at *
  have hM0 : 0 < (LL.take 8).length + 1 := by omega
  generalize (LL.take 8).length + 1 = M at *
  have HAV := Lib.hid HAV0
  have HVOK := Lib.hid hvok
  have HVL := Lib.hid hVlen
  have HRT := Lib.hid hRt40
  have HTD := Lib.hid htl
  have HNB := Lib.hid (And.intro hnb (And.intro he3 hn20))
  have HQB := Lib.hid (fun (W : World) T c (hr : NumsOf W T VL) => arQBits e he3 n nb hn0 (by omega) hnb W T M c VL hVlen hr hM0 (by omega) hvok)
  have HRQ := Lib.hid (fun (W : World) D c len l hL hlen hR hc hD => arReadQBit e he3 n nb hn0 (by omega) hnb W D c M len VL hVlen hM0 (by omega) hvok d l hL hlen hR hc hD)
  have HSA := Lib.hid (fun (W : World) T1 T2 c1 c2 RR (hl : RR.length = M) h1 h2 (hf : RR.flatten.length ≤ 100000) => arSameN W T1 T2 M c1 c2 RR hl h1 h2 (by omega) hf)
  clear hl hR hi hx ht hRt hRt40 htl HAV0 hvok hVlen hae hbn hnb
  go_enter Try.func3, Try.ntmps3
  go_wp2_with fail
  refine HF.out.mono ?_
  rintro e' w1 ⟨⟨b1, rfl⟩, rfl⟩
  cases b1 with
  | false =>
    go_wp2_with fail
    go_ret
    exact ⟨rfl, Below.refl _ _⟩
  | true =>
  by_cases hbig : 2147483647 < nt
  · have hb1 : (2147483647 : Int) < (nt : Int) := by omega
    go_wp2_with fail
    go_ret
    exact ⟨rfl, Below.refl _ _⟩
  have hb1 : ¬ (2147483647 : Int) < (nt : Int) := by omega
  go_wp2_with fail
  refine HAV.out.mono ?_
  rintro e' w2 ⟨T, c2, bs, rfl, hV, K2⟩
  have HV2 := Lib.hid hV
  have HK2 := Lib.hid K2
  clear hV K2 hbig hb1
  go_wp2_with fail
  refine (HTL.out w2).mono ?_
  rintro e' w2' ⟨rfl, rfl⟩
  go_wp2_with fail
  refine (HQB.out _ T c2 HV2.out.nums).mono ?_
  rintro e' w3 ⟨g, rfl, hgw, hWg, K3⟩
  have hlq := qbytes_length (eW e) M nb n (fun r => (VL.getD r []).map (eBits e))
  have hrq := rd_whole8 hWg
  rw [qbytes_cells] at hrq
  have hLb : eW e * M * nb ≤ 1728 := by
    have h1 := (eW_le e).2
    have h2 : nb ≤ 3 := by have := HNB.out.1; omega
    exact Nat.le_trans (Nat.mul_le_mul (Nat.mul_le_mul h1 hM9) h2) (by omega)
  have hL0 : 0 < eW e * M * nb := Nat.mul_pos (Nat.mul_pos (eW_le e).1 hM0) (by have := HNB.out.1; omega)
  generalize qbytes (eW e) M nb n (fun r => (VL.getD r []).map (eBits e)) = qd at *
  generalize eW e * M * nb = L at *
  have HRQD := Lib.hid hrq
  have HLQ := Lib.hid hlq
  have HK3 := Lib.hid (HK2.out.trans K3 (fun _ _ h => h))
  have HV3 := Lib.hid (HV2.out.new0 K3)
  clear hWg hrq hlq K3 hgw
  go_wp2_with fail
  have KB := (Keeps.refl (fun _ => False) w3).alloc (.cells #[.slice (some ⟨g, 0, none⟩) L L, .slice B m2 ct] 23)
  refine (stJoinTwo _ w3.heap.size 23 (some ⟨g, 0, none⟩) B L L m2 ct qd d (Whole.new w3 _ _) (HRQD.out.keeps KB (fun _ _ h => h)) (HRT.out.keeps (HK3.out.trans KB (fun _ _ h => h)) (fun _ _ h => h)) (by omega)).mono ?_
  rintro e' w5 ⟨Aj, cj, rfl, oj, K5, _⟩
  have K35 := KB.trans K5 (fun _ _ h => h)
  have HOJ := Lib.hid oj
  have HK5 := Lib.hid (HK3.out.trans K35 (fun _ _ h => h))
  have HV5 := Lib.hid (HV3.out.new0 K35)
  clear oj KB K5 K35
  go_wp2_with fail
  refine (HRQ.out w5 Aj cj (L + m2) (qd ++ d) rfl (by rw [List.length_append, HLQ.out, HTD.out]) (Rd.own HOJ.out) (own_cap HOJ.out).1 (fun i hi => (HOJ.out.lt i (by rw [ownBlock_slice]; exact hi)).2)).mono ?_
  rintro e' w6 ⟨T6, c6, VS, hte, oT, hRB, hlow, K6⟩
  rw [List.length_map, HVL.out, HTD.out] at hte
  rw [List.length_map, HVL.out] at oT
  subst hte
  have HOT := Lib.hid oT
  have HRB := Lib.hid hRB
  have HLOW := Lib.hid hlow
  have HK6 := Lib.hid (HK5.out.trans K6 (fun _ _ h => h))
  have HV6 := Lib.hid (HV5.out.new0 K6)
  have HBL := Lib.hid HV5.out.lt
  clear oT hRB hlow K6
  have hfl : VL.flatten.length ≤ 100000 ∧ (VL.map fun X => X.map (eOut e)).flatten.length ≤ 100000 := by
    have h1 := flat_le2 20 VL (fun X hX => by have := (HVOK.out X hX).1; omega)
    have h2 := flat_le2 20 (VL.map fun X => X.map (eOut e)) (fun X hX => by
      obtain ⟨Y, hY, rfl⟩ := List.mem_map.1 hX
      have := (HVOK.out Y hY).1
      rw [List.length_map]; omega)
    rw [HVL.out] at h1
    rw [List.length_map, HVL.out] at h2
    omega
  have HFL := Lib.hid hfl
  clear hfl
  by_cases he0 : e = 0
  · have HE0 := Lib.hid he0
    have hn1 : eName e = ⟨#[66, 70, 108, 111, 97, 116, 49, 54]⟩ := by rw [he0]; rfl
    have HT6 := Lib.hid (show NumsOf w6 T6 (VL.map fun X => X.map (eOut e)) from RB.rows HRB.out HOT.out)
    have HST := Lib.hid (show ∀ r V, VL[r]? = some V → VL[r]? = some (halfW n 0 0 r V) from fun r V h => by rw [halfW_start (HVOK.out V (List.mem_of_getElem? h)).1]; exact h)
    clear he0
    go_wp2_with fail
    go_loopw [16] (fun s16 wr => ∃ (i : Nat) (U : List (List Nat)), i ≤ M ∧ s16 = .int .i64 i ∧ Hid (VecsAt wr w.heap.size T M c2 n bs U) ∧ Hid (∀ r V, VL[r]? = some V → U[r]? = some (halfW n i 0 r V)) ∧ Hid (Keeps (fun j => j ∈ bs) w6 wr)) (fun s16 _ => M - (RowKit.intOf s16).toNat)
    case atStart => exact ⟨0, VL, Nat.zero_le _, rfl, HV6, HST, Lib.hid (Keeps.refl _ _)⟩
    case round =>
      obtain ⟨i, U, hiM, rfl, HVi, HUi, HKi⟩ := hrel
      by_cases hlt : i < M
      · go_wp2_with fail
        go_loopw [17] (fun s17 wr => ∃ (k : Nat) (U : List (List Nat)), k ≤ n ∧ s17 = .int .i64 k ∧ Hid (VecsAt wr w.heap.size T M c2 n bs U) ∧ Hid (∀ r V, VL[r]? = some V → U[r]? = some (halfW n i k r V)) ∧ Hid (Keeps (fun j => j ∈ bs) w6 wr)) (fun s17 _ => n - (RowKit.intOf s17).toNat)
        case atStart => exact ⟨0, U, Nat.zero_le _, rfl, HVi, HUi, HKi⟩
        case round =>
          obtain ⟨k, U2, hkn, rfl, HVk, HUk, HKk⟩ := hrel
          by_cases hlt2 : k < n
          · obtain ⟨V, hV⟩ : ∃ V, VL[i]? = some V := ⟨_, List.getElem?_eq_getElem (by rw [HVL.out]; exact hlt)⟩
            obtain ⟨b0, hb0⟩ : ∃ b0, bs[i]? = some b0 := ⟨_, List.getElem?_eq_getElem (by rw [HVk.out.lb]; exact hlt)⟩
            have hU := HUk.out i V hV
            obtain ⟨h1, h2, h3⟩ := HVk.out.rows i b0 _ hb0 hU
            obtain ⟨adT, u, hT, hbl, hu, hcT⟩ := (Rd.own HVk.out.outer).at' hlt
            rw [List.getElem?_map, hb0] at hu
            injection hu with hu
            subst hu
            have hVV := HVOK.out V (List.mem_of_getElem? hV)
            obtain ⟨x, hxk⟩ : ∃ x, V[k]? = some x := ⟨_, List.getElem?_eq_getElem (by rw [hVV.1]; exact hlt2)⟩
            have hgd : V.getD k 0 = x := by simp [hxk]
            have hx32 := (hVV.2 x (List.mem_of_getElem? hxk)).1
            have hce := h3.cell k
            rw [ucells_get hlt2, show (halfW n i k i V).getD k 0 = x by rw [halfW, list_getD _ hlt2, if_neg (by omega), hgd]] at hce
            have hfe := h3.frozen k
            have hle := h3.lt
            have HH := Lib.hid (fun W => arHalf W x hx32)
            have hhl := half_lt x
            have c1 : IntKind.u32.wrap ((half x : Nat) : Int) = ((half x : Nat) : Int) := by rw [IntKind.wrap_u32]; omega
            have c3 : IntKind.u32.wrap (((half x : Nat) : Int) * 65536) = ((half x * 65536 : Nat) : Int) := by rw [IntKind.wrap_u32]; omega
            have HPUT := Lib.hid (HVk.out.put (k := k) (x := half x * 65536) hb0 hU)
            have HSETU := Lib.hid (show ∀ r V', VL[r]? = some V' → (U2.set i ((halfW n i k i V).set k (half x * 65536)))[r]? = some (halfW n i (k + 1) r V') from fun r V' hr => by
              rw [List.getElem?_set]
              by_cases hri : i = r
              · subst hri
                rw [hV] at hr
                injection hr with hr
                subst hr
                rw [if_pos rfl, if_pos (List.getElem?_eq_some_iff.1 hU).1, ← hgd, halfW_set hlt2]
              · rw [if_neg hri, HUk.out r V' hr]
                congr 1
                exact List.map_congr_left fun j _ => by
                  by_cases h : r < i ∨ (r = i ∧ j < k)
                  · rw [if_pos h, if_pos (by omega)]
                  · rw [if_neg h, if_neg (by omega)])
            have HMEM := Lib.hid (List.mem_of_getElem? hb0)
            subst hT
            clear hV hb0 hU h1 h2 h3 hVV hxk hgd hx32 hhl
            have hcT' : wr.drew.cell? (adT.add i) = some (.slice (some ⟨b0, 0, none⟩) n n) := hcT
            have hce' : wr.drew.cell? ⟨b0, k, none⟩ = some (.int .u32 (x : Int)) := hce
            have hfe' : wr.drew.frozen? ⟨b0, k, none⟩ = false := hfe
            have hle' : b0 < wr.drew.heap.size := hle
            have hbl' : adT.block < wr.drew.heap.size := hbl
            go_wp2_with fail
            go_region_law (first
              | (go_simp
                 go_at_call 10
                 refine (HH.out _).mono ?_
                 rintro e' w9 ⟨rfl, rfl⟩))
            all_goals
              go_wp2_with fail
              go_roundw
              case rel =>
                have hp := HPUT.out
                rw [show ((half x * 65536 : Nat) : Int) = ((half x : Nat) : Int) * 65536 by rw [Int.natCast_mul]; rfl] at hp
                exact ⟨k + 1, _, by omega, by go_num, Lib.hid (hp.new (Keeps.refl _ _).drew), HSETU, Lib.hid ((HKk.out.setCell (p := ⟨b0, k, none⟩) (.inl HMEM.out) _).drew)⟩
              case measure => (first | (simp [RowKit.intOf]; done) | (simp [RowKit.intOf]; omega))
          · obtain rfl : k = n := by omega
            have HUN := Lib.hid (show ∀ r V, VL[r]? = some V → U2[r]? = some (halfW k (i + 1) 0 r V) from fun r V h => by rw [← halfW_next]; exact HUk.out r V h)
            go_wp2_with fail
            go_roundw
            case rel => exact ⟨i + 1, U2, by omega, by go_num, HVk, HUN, HKk⟩
            case measure => (first | (simp [RowKit.intOf]; done) | (simp [RowKit.intOf]; omega))
      · obtain rfl : i = M := by omega
        have hUU : U = VL.map fun X => X.map (eOut e) := by
          apply List.ext_getElem?
          intro r
          rw [List.getElem?_map]
          by_cases hr : r < i
          · obtain ⟨V, hV⟩ : ∃ V, VL[r]? = some V := ⟨_, List.getElem?_eq_getElem (by rw [HVL.out]; exact hr)⟩
            rw [HUi.out r V hV, hV, halfW_end (HVOK.out V (List.mem_of_getElem? hV)).1 hr, HE0.out]
            rfl
          · rw [List.getElem?_eq_none (by rw [HVi.out.lv]; omega), List.getElem?_eq_none (by rw [HVL.out]; omega)]
            rfl
        have hN := HVi.out.nums
        rw [hUU] at hN
        have hT6 : NumsOf wr T6 (VL.map fun X => X.map (eOut e)) := RB.rows (HRB.out.apart2 HKi.out (fun v hv q hq h => by
          have h1 := HLOW.out v hv q hq
          have h2 := HBL.out q h
          omega)) (own_keeps HOT.out HKi.out (fun q hq h => by
          have h1 := (HOT.out.lt q hq).1
          have h2 := HBL.out q h
          omega))
        have HS := Lib.hid (HSA.out wr T6 T c6 c2 _ (by rw [List.length_map]; exact HVL.out) hT6 hN HFL.out.2)
        have HKW := Lib.hid (HK6.out.trans (HKi.out) (S' := fun j => j ∈ bs) (fun j hj h => by
          obtain ⟨r, hr⟩ := List.getElem?_of_mem h
          obtain ⟨V, hV⟩ : ∃ V, VL[r]? = some V := ⟨_, List.getElem?_eq_getElem (by rw [HVL.out, ← HV6.out.lb]; exact (List.getElem?_eq_some_iff.1 hr).1)⟩
          have := (HV6.out.rows r j V hr hV).1
          omega))
        clear hUU hN hT6
        go_wp2_with fail
        refine HS.out.mono ?_
        rintro e' w7 hq
        obtain ⟨rfl, K7⟩ := hq.keeps
        have HK7 := Lib.hid (HKW.out.trans K7 (fun _ _ h => h))
        clear hq K7
        go_wp2_with fail
        go_ret
        exact ⟨rfl, HK7.out.below (Nat.le_refl _) (fun _ h => h.elim)⟩
  · have hn2 : ((eName e).toList == [66, 70, 108, 111, 97, 116, 49, 54]) = false := by
      have := HNB.out.2.1
      have h12 : e = 1 ∨ e = 2 := by omega
      rcases h12 with h | h <;> rw [h] <;> decide +kernel
    have hT6 : NumsOf w6 T6 (VL.map fun X => X.map (eOut e)) := RB.rows HRB.out HOT.out
    rw [out_same he0] at hT6
    have HS := Lib.hid (HSA.out w6 T6 T c6 c2 VL HVL.out hT6 HV6.out.nums HFL.out.1)
    clear hT6 he0
    go_wp2_with fail
    refine HS.out.mono ?_
    rintro e' w7 hq
    obtain ⟨rfl, K7⟩ := hq.keeps
    have HK7 := Lib.hid (HK6.out.trans K7 (fun _ _ h => h))
    clear hq K7
    go_wp2_with fail
    go_ret
    exact ⟨rfl, HK7.out.below (Nat.le_refl _) (fun _ h => h.elim)⟩
end Go.Proofs.Ytfkokngjclaikaa
