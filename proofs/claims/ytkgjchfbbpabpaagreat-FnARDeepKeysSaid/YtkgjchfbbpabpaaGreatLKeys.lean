/- The walk of the law on maps and the arrays of their keys. Conditions: lengths that an argument can have. -/
import Derived.Test.YtkgjchfbbpabpaaGreatDk
import Derived.Deep.RegionHeld3
namespace Go.Proofs.YtkgjchfbbpabpaaGreat
open Go.RowKit Go.Lib
set_option linter.unusedVariables false
theorem pairs_lenK (PP : List (List Pr)) : (pairsOf PP).length ≤ 13 ∧ 0 < (pairsOf PP).length := by
  rw [pairsOf, List.length_append, List.length_map, List.length_take]
  simp
  omega
theorem pairs_inK (PP : List (List Pr)) : ∀ L ∈ pairsOf PP, L.length ≤ 8 ∧ ∀ p ∈ L, p.1.size ≤ 60 ∧ p.2.size ≤ 60 := by
  intro L hL
  rcases List.mem_append.1 hL with h | h
  · obtain ⟨X, _, rfl⟩ := List.mem_map.1 h
    refine ⟨by rw [pairsIn, List.length_map, List.length_take]; omega, fun p hp => ?_⟩
    obtain ⟨y, _, rfl⟩ := List.mem_map.1 hp
    exact ⟨cut60_size _, cut60_size _⟩
  · rw [List.mem_singleton.1 h]
    refine ⟨by decide, fun p hp => ?_⟩
    rw [List.mem_singleton.1 hp]
    exact ⟨by decide, by decide⟩
theorem KbAt.stepVn {w0 W W' : World} {b0 : Nat} {V0 K V V' : Option Addr} {nk ck nv cv cv' b d n : Nat} {ks VV : List Value} {LB : List (List UInt8)} {l : List UInt8} (h : KbAt w0 W b0 V0 K nk ck V nv cv ks VV LB) (hn : l.length = n) (hR : Rd W 1 (some ⟨b, 0, none⟩) l.length (Lib.byteCells l)) (hB : TBlk W 5 b) (hg : W.grownBy W' (ob V)) (ho : W'.ownsRow b0 26 1 (.slice V' (nv + 1) cv') (nv + 1) (VV ++ [.slice (some ⟨b, 0, none⟩) n d])) (hat : ob V' = ob V ∨ ob V' = some W.heap.size) : KbAt w0 W' b0 V0 K nk ck V' (nv + 1) cv' ks (VV ++ [.slice (some ⟨b, 0, none⟩) n d]) (LB ++ [l]) := by
  subst hn
  exact h.stepV hR hB hg ho hat
theorem tbG {w w' : World} {row : Option Addr} {t : TypeId} {b : Nat} (hg : w.grownBy w' (ob row)) (h : TBlk w t b) (hr : ¬ ob row = some b) : TBlk w' t b :=
  h.keeps (S := fun i => ob row = some i) ((Keeps.refl _ w).grown hg (fun k hk => .inl hk)) hr
theorem keys_snoc {L : List Pr} {k : Nat} {p : Pr} (h : L[k]? = some p) : (keysOf (L.take k)).map Value.string ++ [.string p.1] = (keysOf (L.take (k + 1))).map Value.string := by rw [List.take_add_one, h]; simp [keysOf]
def valB (L : List Pr) : List (List UInt8) := L.map fun p => sl p.2
theorem valB_snoc {L : List Pr} {k : Nat} {p : Pr} (h : L[k]? = some p) : valB (L.take k) ++ [sl p.2] = valB (L.take (k + 1)) := by rw [List.take_add_one, h]; simp [valB]
def cvOp (s d : TypeId) (x : Operand) : Op := .convert s d x
theorem cvOp_eq (s d : TypeId) (x : Operand) : cvOp s d x = .convert s d x := rfl
attribute [local go_sem] cvOp_eq
theorem flat_boundK {α : Type} (m : Nat) : ∀ (LL : List (List α)), (∀ L ∈ LL, L.length ≤ m) → LL.flatten.length ≤ LL.length * m
  | [], _ => by simp
  | L :: r, h => by
    have h1 := h L (List.mem_cons_self ..)
    have h2 := flat_boundK m r fun X hX => h X (List.mem_cons_of_mem _ hX)
    rw [List.flatten_cons, List.length_append, List.length_cons, Nat.add_mul, Nat.one_mul]
    omega
theorem encB_boundK (L : List (List UInt8)) (h : ∀ l ∈ L, l.length ≤ 60) : (encB L).length ≤ L.length * 70 := by
  rw [encB]
  refine Nat.le_trans (flat_boundK 70 _ fun l hl => ?_) (by rw [List.length_map]; exact Nat.le_refl _)
  obtain ⟨x, hx, rfl⟩ := List.mem_map.1 hl
  have h1 := h x hx
  have := Lib.uvarint_length64 (x := x.length) (by omega)
  rw [List.length_append]
  omega
theorem arr_map (X : List (List Pr)) : arrB (X.map keysOf) ++ encB (valB X.flatten) = mpB (exOf X) (ksOf X) (vsOf X) := by
  have h1 : (X.map keysOf).map List.length = X.map List.length := by rw [List.map_map]; exact List.map_congr_left fun L _ => by simp [Function.comp, keysOf]
  have h2 : (X.map keysOf).flatten = keysOf X.flatten := by rw [keysOf, List.map_flatten]; rfl
  have h3 : valB X.flatten = vsOf X := by rw [valB, vsOf, valsOf, List.map_map]; rfl
  rw [arrB, h1, h2, h3, mpB, exOf, ksOf]
def InRel (w2 wo : World) (V0 : Option Addr) (mm kk : Nat) (L : List Pr) (LB0 : List (List UInt8)) (v x j : Value) (wr : World) : Prop := ∃ (q : Nat) (K : Option Addr) (ck : Nat) (V : Option Addr) (nv cv : Nat) (VV : List Value), q ≤ mm ∧ nv ≤ 8 * kk + q ∧ j = .int .i64 q ∧ x = .slice K q ck ∧ v = .slice V nv cv ∧ KbAt wo wr w2.heap.size V0 K q ck V nv cv ((keysOf (L.take q)).map Value.string) VV (LB0 ++ valB (L.take q))
def OutRel (w2 : World) (n : Nat) (X : List (List Pr)) (ks v i : Value) (wr : World) : Prop := ∃ (k : Nat) (KO : Option Addr) (co : Nat) (VK : List Value) (V : Option Addr) (nv cv : Nat) (VV : List Value), k ≤ n ∧ nv ≤ 8 * k ∧ i = .int .i64 k ∧ ks = .slice KO k co ∧ v = .slice V nv cv ∧ wr.ownsRow w2.heap.size 22 1 (.slice KO k co) k VK ∧ KeysAt wr VK ((X.take k).map keysOf) ∧ wr.ownsRow w2.heap.size 26 1 (.slice V nv cv) nv VV ∧ BytesAt wr VV (valB (X.take k).flatten) ∧ Keeps (fun _ => False) w2 wr

set_option maxRecDepth 100000 in
set_option maxHeartbeats 16000000 in
theorem deepKeys (w : World) (A : Option Addr) (n c : Nat) (PP : List (List Pr)) (hl : PP.length = n) (hR : RowsP w A PP) (hi : ∀ X ∈ PP, X.length ≤ 9223372036854775807) (hn : n ≤ 9223372036854775807) :
    Calls Tryz.prog 4 #[.slice A n c] w fun e w' => e = .returned (.bool true) ∧ Below w.heap.size w w' := by
  obtain ⟨i0, hi0, hz0, hz1, hz2⟩ := info_parts infoStrE
  obtain ⟨j0, hj0, hy0, hy1, hy2⟩ := info_parts infoBsE
  obtain ⟨l0, hl0, hx0, hx1, hx2⟩ := info_parts infoSsE
  have HF := Lib.hid (fits8 w A n c PP hl hR hi hn)
  have HP := Lib.hid (fun w1 (K : Keeps (fun _ => False) w w1) => arPairs w1 A n c PP hl (hR.keeps K) hn hi)
  clear hl hR hi hn
  obtain ⟨b1, b2⟩ := pairs_lenK PP
  have b3 := pairs_inK PP
  generalize pairsOf PP = X at *
  have HX3 := Lib.hid b3
  obtain ⟨nx, hnx⟩ : ∃ nx, nx = X.length := ⟨_, rfl⟩
  have HNX := Lib.hid hnx
  rw [← hnx] at b1 b2 HP
  clear hnx b3
  go_enter Tryz.func4, Tryz.ntmps4
  go_wp2_with fail
  refine HF.out.mono ?_
  rintro e w1 ⟨⟨b, rfl⟩, K1⟩
  cases b with
  | false =>
    go_wp2_with fail
    go_ret
    exact ⟨rfl, K1.below (Nat.le_refl _) (fun _ h => h.elim)⟩
  | true =>
    go_wp2_with fail
    refine (HP.out w1 K1).mono ?_
    rintro e w2 ⟨A2, c2, rfl, hR2, K2⟩
    have HR2 := Lib.hid hR2
    have HK12 := Lib.hid (K1.trans K2 (fun _ _ h => h))
    clear hR2 K1 K2
    go_wp2_with fail
    go_loopw [4, 5, 6, 7, 8] (fun ks v i _ _ wr => OutRel w2 nx X ks v i wr) (fun _ _ i _ _ _ => nx - (RowKit.intOf i).toNat)
    case atStart => exact ⟨0, none, 0, [], none, 0, 0, [], Nat.zero_le _, Nat.zero_le _, rfl, rfl, rfl, World.ownsRow_nil _ _ _ _, KeysAt.nil _, World.ownsRow_nil _ _ _ _, BytesAt.nil _, Keeps.refl _ _⟩
    case round =>
      obtain ⟨k, KO, co, VK, V0, nv0, cv0, VV0, hk, hnv0, rfl, rfl, rfl, hoO, hKA, hoV, hBA, hKo⟩ := hrel
      generalize hwo : wr = wo at *
      clear hwo
      have HKo := Lib.hid hKo
      have HOO := Lib.hid hoO
      have HKA := Lib.hid hKA
      have HOV := Lib.hid hoV
      have HBA := Lib.hid hBA
      clear hKo hoO hKA hoV hBA
      by_cases hlt : k < nx
      · obtain ⟨L, hL⟩ : ∃ L, X[k]? = some L := ⟨_, List.getElem?_eq_getElem (by rw [← HNX.out]; exact hlt)⟩
        have hmem := HX3.out L (List.mem_of_getElem? hL)
        have HT := Lib.hid (show (X.take (k + 1)) = X.take k ++ [L] by rw [List.take_add_one, hL]; rfl)
        obtain ⟨ad, Bd, d, rfl, hlb, hcell2, hRd2⟩ := HR2.out k L hL
        have hcell := cellK HKo.out hcell2
        generalize hmm : L.length = mm at *
        have HMM := Lib.hid hmm
        have hmm8 : mm ≤ 8 := hmem.1
        have HRD := Lib.hid hRd2
        have HCELL := Lib.hid hcell
        have HADB := Lib.hid hlb
        clear hL hmem hcell2 hRd2 hmm hlb
        have lO : ∀ z, ob V0 = some z → w2.heap.size ≤ z := fun z hz => (HOV.out.lt z (by rw [ownBlock_slice]; exact hz)).1
        have HLO := Lib.hid lO
        clear lO hcell
        go_wp2_with fail
        go_loopw [5, 7, 8] (fun v x j wr => InRel w2 wo V0 mm k L (valB (X.take k).flatten) v x j wr) (fun _ _ j _ => mm - (RowKit.intOf j).toNat)
        case atStart => exact ⟨0, none, 0, V0, nv0, cv0, VV0, Nat.zero_le _, hnv0, rfl, rfl, rfl, ⟨World.ownsRow_nil _ _ _ _, HOV.out, by simpa [valB] using HBA.out, .inl rfl, Keeps.refl _ _⟩⟩
        case round =>
          obtain ⟨q, K, ck, V, nv, cv, VV, hq, hnv, rfl, rfl, rfl, h0⟩ := hrel
          have hadk : wr.cell? (ad.add k) = some (.slice Bd mm d) := (h0.kp.cell (by rw [blk_add]; have := HADB.out; have := HKo.out.size; omega) (by rw [blk_add]; intro h; have := HLO.out _ h; have := HADB.out; omega)).trans HCELL.out
          by_cases hlt2 : q < mm
          · obtain ⟨bd, ⟨x, y⟩, rfl, hbb, hp, hc1', hc2'⟩ := Rd.pair HRD.out HMM.out hlt2
            dsimp only at hc1' hc2'
            have up : ∀ {p : Addr} {u : Value}, p.block = bd.block → w2.cell? p = some u → wr.cell? p = some u := fun {p u} hpb hu => (h0.kp.cell (by have := HKo.out.size; omega) (fun h => by have := HLO.out _ h; omega)).trans (cellK HKo.out hu)
            have hcl := hadk
            have hc1 := up (by rw [blk_add]) hc1'
            have hc3' : w2.cell? { block := (bd.add (q * 2)).block, off := (bd.add (q * 2)).off + 1 } = some (.string y) := by rw [← Addr.add_add] at hc2'; exact hc2'
            have hc3 := up (by show (bd.add (q * 2)).block = bd.block; rw [blk_add]) hc3'
            have HSK := Lib.hid (keys_snoc hp)
            have HSV := Lib.hid (valB_snoc hp)
            dsimp only at HSK HSV
            have lK : ∀ z, ob K = some z → z < wr.heap.size := fun z hz => (h0.oK.lt z (by rw [ownBlock_slice]; exact hz)).2
            have lV : ∀ z, ob V = some z → z < wr.heap.size := fun z hz => (h0.oV.lt z (by rw [ownBlock_slice]; exact hz)).2
            have nKa : ob K ≠ some (ad.add k).block := fun h => by have h1 := (h0.oK.lt _ (by rw [ownBlock_slice]; exact h)).1; rw [blk_add] at h1; have := HADB.out; have := HKo.out.size; omega
            have nKb : ob K ≠ some (bd.add (q * 2)).block := fun h => by have h1 := (h0.oK.lt _ (by rw [ownBlock_slice]; exact h)).1; rw [blk_add] at h1; have := HKo.out.size; omega
            have nVa : ob V ≠ some (ad.add k).block := fun h => by have h1 := (h0.oV.lt _ (by rw [ownBlock_slice]; exact h)).1; rw [blk_add] at h1; have := HADB.out; omega
            have nVb : ob V ≠ some (bd.add (q * 2)).block := fun h => by have h1 := (h0.oV.lt _ (by rw [ownBlock_slice]; exact h)).1; rw [blk_add] at h1; omega
            obtain ⟨cp, cw, hcw⟩ := conv_bytes y
            have HCW := Lib.hid (fun W => (hcw W).2)
            have hcv : ∀ W : World, (convert 9 26 (.string y)).run Tryz.prog W = .ok (.slice (some ⟨W.heap.size, 0, none⟩) y.size (cp W)) (cw W) := fun W => (hcw W).1
            have hS : ∀ W W' : World, Keeps (fun _ => False) W W' → (fun w' => w'.cell? (ad.add k) = some (.slice (some bd) mm d) ∧ w'.cell? (bd.add (q * 2)) = some (.string x) ∧ w'.cell? { block := (bd.add (q * 2)).block, off := (bd.add (q * 2)).off + 1 } = some (.string y)) W → (fun w' => w'.cell? (ad.add k) = some (.slice (some bd) mm d) ∧ w'.cell? (bd.add (q * 2)) = some (.string x) ∧ w'.cell? { block := (bd.add (q * 2)).block, off := (bd.add (q * 2)).off + 1 } = some (.string y)) W' := fun W W' hk hs => ⟨cellK hk hs.1, cellK hk hs.2.1, cellK hk hs.2.2⟩
            clear hcw hp hc1' hc2' hc3' up
            have k_a := (Keeps.refl (fun _ => False) wr).drew
            have s_a : (fun w' => w'.cell? (ad.add k) = some (.slice (some bd) mm d) ∧ w'.cell? (bd.add (q * 2)) = some (.string x) ∧ w'.cell? { block := (bd.add (q * 2)).block, off := (bd.add (q * 2)).off + 1 } = some (.string y)) wr.drew := ⟨hcl, hc1, hc3⟩
            have k_b : Keeps (fun _ => False) wr (wr.drew.alloc (.cells #[.string x] 9)) := k_a.alloc _
            have s_b : (fun w' => w'.cell? (ad.add k) = some (.slice (some bd) mm d) ∧ w'.cell? (bd.add (q * 2)) = some (.string x) ∧ w'.cell? { block := (bd.add (q * 2)).block, off := (bd.add (q * 2)).off + 1 } = some (.string y)) (wr.drew.alloc (.cells #[.string x] 9)) := hS _ _ ((Keeps.refl (fun _ => False) _).alloc _) s_a
            have k_c : Keeps (fun _ => False) wr (cw wr.drew) := k_a.trans (HCW.out wr.drew).1 (fun _ _ h => h)
            have s_c : (fun w' => w'.cell? (ad.add k) = some (.slice (some bd) mm d) ∧ w'.cell? (bd.add (q * 2)) = some (.string x) ∧ w'.cell? { block := (bd.add (q * 2)).block, off := (bd.add (q * 2)).off + 1 } = some (.string y)) (cw wr.drew) := hS _ _ (HCW.out wr.drew).1 s_a
            have k_bc : Keeps (fun _ => False) wr (cw (wr.drew.alloc (.cells #[.string x] 9))) := k_b.trans (HCW.out (wr.drew.alloc (.cells #[.string x] 9))).1 (fun _ _ h => h)
            have s_bc : (fun w' => w'.cell? (ad.add k) = some (.slice (some bd) mm d) ∧ w'.cell? (bd.add (q * 2)) = some (.string x) ∧ w'.cell? { block := (bd.add (q * 2)).block, off := (bd.add (q * 2)).off + 1 } = some (.string y)) (cw (wr.drew.alloc (.cells #[.string x] 9))) := hS _ _ (HCW.out (wr.drew.alloc (.cells #[.string x] 9))).1 s_b
            have k_cb : Keeps (fun _ => False) wr ((cw wr.drew).alloc (.cells #[.string x] 9)) := k_c.alloc _
            have s_cb : (fun w' => w'.cell? (ad.add k) = some (.slice (some bd) mm d) ∧ w'.cell? (bd.add (q * 2)) = some (.string x) ∧ w'.cell? { block := (bd.add (q * 2)).block, off := (bd.add (q * 2)).off + 1 } = some (.string y)) ((cw wr.drew).alloc (.cells #[.string x] 9)) := hS _ _ ((Keeps.refl (fun _ => False) _).alloc _) s_c
            have k_cd : Keeps (fun _ => False) wr ((cw wr.drew).alloc (.cells #[.slice (some ⟨wr.heap.size, 0, none⟩) y.size (cp wr.drew)] 26)) := k_c.alloc _
            have s_cd : (fun w' => w'.cell? (ad.add k) = some (.slice (some bd) mm d) ∧ w'.cell? (bd.add (q * 2)) = some (.string x) ∧ w'.cell? { block := (bd.add (q * 2)).block, off := (bd.add (q * 2)).off + 1 } = some (.string y)) ((cw wr.drew).alloc (.cells #[.slice (some ⟨wr.heap.size, 0, none⟩) y.size (cp wr.drew)] 26)) := hS _ _ ((Keeps.refl (fun _ => False) _).alloc _) s_c
            have k_bcd : Keeps (fun _ => False) wr ((cw (wr.drew.alloc (.cells #[.string x] 9))).alloc (.cells #[.slice (some ⟨wr.heap.size + 1, 0, none⟩) y.size (cp (wr.drew.alloc (.cells #[.string x] 9)))] 26)) := k_bc.alloc _
            have s_bcd : (fun w' => w'.cell? (ad.add k) = some (.slice (some bd) mm d) ∧ w'.cell? (bd.add (q * 2)) = some (.string x) ∧ w'.cell? { block := (bd.add (q * 2)).block, off := (bd.add (q * 2)).off + 1 } = some (.string y)) ((cw (wr.drew.alloc (.cells #[.string x] 9))).alloc (.cells #[.slice (some ⟨wr.heap.size + 1, 0, none⟩) y.size (cp (wr.drew.alloc (.cells #[.string x] 9)))] 26)) := hS _ _ ((Keeps.refl (fun _ => False) _).alloc _) s_bc
            have k_cbd : Keeps (fun _ => False) wr (((cw wr.drew).alloc (.cells #[.string x] 9)).alloc (.cells #[.slice (some ⟨wr.heap.size, 0, none⟩) y.size (cp wr.drew)] 26)) := k_cb.alloc _
            have s_cbd : (fun w' => w'.cell? (ad.add k) = some (.slice (some bd) mm d) ∧ w'.cell? (bd.add (q * 2)) = some (.string x) ∧ w'.cell? { block := (bd.add (q * 2)).block, off := (bd.add (q * 2)).off + 1 } = some (.string y)) (((cw wr.drew).alloc (.cells #[.string x] 9)).alloc (.cells #[.slice (some ⟨wr.heap.size, 0, none⟩) y.size (cp wr.drew)] 26)) := hS _ _ ((Keeps.refl (fun _ => False) _).alloc _) s_cb
            have k_cdb : Keeps (fun _ => False) wr (((cw wr.drew).alloc (.cells #[.slice (some ⟨wr.heap.size, 0, none⟩) y.size (cp wr.drew)] 26)).alloc (.cells #[.string x] 9)) := k_cd.alloc _
            have s_cdb : (fun w' => w'.cell? (ad.add k) = some (.slice (some bd) mm d) ∧ w'.cell? (bd.add (q * 2)) = some (.string x) ∧ w'.cell? { block := (bd.add (q * 2)).block, off := (bd.add (q * 2)).off + 1 } = some (.string y)) (((cw wr.drew).alloc (.cells #[.slice (some ⟨wr.heap.size, 0, none⟩) y.size (cp wr.drew)] 26)).alloc (.cells #[.string x] 9)) := hS _ _ ((Keeps.refl (fun _ => False) _).alloc _) s_cd
            have HZC := Lib.hid (show (cw wr.drew).heap.size = wr.heap.size + 1 from (HCW.out wr.drew).2.1)
            have HZBC := Lib.hid (show (cw (wr.drew.alloc (.cells #[.string x] 9))).heap.size = wr.heap.size + 2 by have h := (HCW.out (wr.drew.alloc (.cells #[.string x] 9))).2.1; rw [World.size_alloc] at h; exact h)
            have ek_b : Rd (wr.drew.alloc (.cells #[.string x] 9)) 1 (some ⟨wr.heap.size, 0, none⟩) 1 [.string x] := rd_one wr.drew 9 (.string x)
            have ek_bc : Rd (cw (wr.drew.alloc (.cells #[.string x] 9))) 1 (some ⟨wr.heap.size, 0, none⟩) 1 [.string x] := ek_b.keeps (HCW.out (wr.drew.alloc (.cells #[.string x] 9))).1 (fun _ _ h => h)
            have ek_bcd : Rd ((cw (wr.drew.alloc (.cells #[.string x] 9))).alloc (.cells #[.slice (some ⟨wr.heap.size + 1, 0, none⟩) y.size (cp (wr.drew.alloc (.cells #[.string x] 9)))] 26)) 1 (some ⟨wr.heap.size, 0, none⟩) 1 [.string x] := ek_bc.keeps ((Keeps.refl (fun _ => False) _).alloc _) (fun _ _ h => h)
            have ek_cb : Rd ((cw wr.drew).alloc (.cells #[.string x] 9)) 1 (some ⟨(cw wr.drew).heap.size, 0, none⟩) 1 [.string x] := rd_one (cw wr.drew) 9 (.string x)
            have ek_cbd : Rd (((cw wr.drew).alloc (.cells #[.string x] 9)).alloc (.cells #[.slice (some ⟨wr.heap.size, 0, none⟩) y.size (cp wr.drew)] 26)) 1 (some ⟨(cw wr.drew).heap.size, 0, none⟩) 1 [.string x] := ek_cb.keeps ((Keeps.refl (fun _ => False) _).alloc _) (fun _ _ h => h)
            have ek_cdb : Rd (((cw wr.drew).alloc (.cells #[.slice (some ⟨wr.heap.size, 0, none⟩) y.size (cp wr.drew)] 26)).alloc (.cells #[.string x] 9)) 1 (some ⟨(cw wr.drew).heap.size + 1, 0, none⟩) 1 [.string x] := by have h := rd_one ((cw wr.drew).alloc (.cells #[.slice (some ⟨wr.heap.size, 0, none⟩) y.size (cp wr.drew)] 26)) 9 (.string x); rw [World.size_alloc] at h; exact h
            have br_c : Rd (cw wr.drew) 1 (some ⟨wr.heap.size, 0, none⟩) (sl y).length (Lib.byteCells (sl y)) := (HCW.out wr.drew).2.2.1
            have tb_c : TBlk (cw wr.drew) 5 (wr.heap.size) := (HCW.out wr.drew).2.2.2
            have br_bc : Rd (cw (wr.drew.alloc (.cells #[.string x] 9))) 1 (some ⟨wr.heap.size + 1, 0, none⟩) (sl y).length (Lib.byteCells (sl y)) := by have h := (HCW.out (wr.drew.alloc (.cells #[.string x] 9))).2.2.1; rw [World.size_alloc] at h; exact h
            have tb_bc : TBlk (cw (wr.drew.alloc (.cells #[.string x] 9))) 5 (wr.heap.size + 1) := by have h := (HCW.out (wr.drew.alloc (.cells #[.string x] 9))).2.2.2; rw [World.size_alloc] at h; exact h
            have br_cb : Rd ((cw wr.drew).alloc (.cells #[.string x] 9)) 1 (some ⟨wr.heap.size, 0, none⟩) (sl y).length (Lib.byteCells (sl y)) := br_c.keeps ((Keeps.refl (fun _ => False) _).alloc _) (fun _ _ h => h)
            have tb_cb : TBlk ((cw wr.drew).alloc (.cells #[.string x] 9)) 5 (wr.heap.size) := tb_c.keeps ((Keeps.refl (fun _ => False) _).alloc _) (fun h => h)
            have br_cd : Rd ((cw wr.drew).alloc (.cells #[.slice (some ⟨wr.heap.size, 0, none⟩) y.size (cp wr.drew)] 26)) 1 (some ⟨wr.heap.size, 0, none⟩) (sl y).length (Lib.byteCells (sl y)) := br_c.keeps ((Keeps.refl (fun _ => False) _).alloc _) (fun _ _ h => h)
            have tb_cd : TBlk ((cw wr.drew).alloc (.cells #[.slice (some ⟨wr.heap.size, 0, none⟩) y.size (cp wr.drew)] 26)) 5 (wr.heap.size) := tb_c.keeps ((Keeps.refl (fun _ => False) _).alloc _) (fun h => h)
            have br_bcd : Rd ((cw (wr.drew.alloc (.cells #[.string x] 9))).alloc (.cells #[.slice (some ⟨wr.heap.size + 1, 0, none⟩) y.size (cp (wr.drew.alloc (.cells #[.string x] 9)))] 26)) 1 (some ⟨wr.heap.size + 1, 0, none⟩) (sl y).length (Lib.byteCells (sl y)) := br_bc.keeps ((Keeps.refl (fun _ => False) _).alloc _) (fun _ _ h => h)
            have tb_bcd : TBlk ((cw (wr.drew.alloc (.cells #[.string x] 9))).alloc (.cells #[.slice (some ⟨wr.heap.size + 1, 0, none⟩) y.size (cp (wr.drew.alloc (.cells #[.string x] 9)))] 26)) 5 (wr.heap.size + 1) := tb_bc.keeps ((Keeps.refl (fun _ => False) _).alloc _) (fun h => h)
            have br_cbd : Rd (((cw wr.drew).alloc (.cells #[.string x] 9)).alloc (.cells #[.slice (some ⟨wr.heap.size, 0, none⟩) y.size (cp wr.drew)] 26)) 1 (some ⟨wr.heap.size, 0, none⟩) (sl y).length (Lib.byteCells (sl y)) := br_cb.keeps ((Keeps.refl (fun _ => False) _).alloc _) (fun _ _ h => h)
            have tb_cbd : TBlk (((cw wr.drew).alloc (.cells #[.string x] 9)).alloc (.cells #[.slice (some ⟨wr.heap.size, 0, none⟩) y.size (cp wr.drew)] 26)) 5 (wr.heap.size) := tb_cb.keeps ((Keeps.refl (fun _ => False) _).alloc _) (fun h => h)
            have br_cdb : Rd (((cw wr.drew).alloc (.cells #[.slice (some ⟨wr.heap.size, 0, none⟩) y.size (cp wr.drew)] 26)).alloc (.cells #[.string x] 9)) 1 (some ⟨wr.heap.size, 0, none⟩) (sl y).length (Lib.byteCells (sl y)) := br_cd.keeps ((Keeps.refl (fun _ => False) _).alloc _) (fun _ _ h => h)
            have tb_cdb : TBlk (((cw wr.drew).alloc (.cells #[.slice (some ⟨wr.heap.size, 0, none⟩) y.size (cp wr.drew)] 26)).alloc (.cells #[.string x] 9)) 5 (wr.heap.size) := tb_cd.keeps ((Keeps.refl (fun _ => False) _).alloc _) (fun h => h)
            have ev_cd : Rd ((cw wr.drew).alloc (.cells #[.slice (some ⟨wr.heap.size, 0, none⟩) y.size (cp wr.drew)] 26)) 1 (some ⟨(cw wr.drew).heap.size, 0, none⟩) 1 [.slice (some ⟨wr.heap.size, 0, none⟩) y.size (cp wr.drew)] := rd_one (cw wr.drew) 26 _
            have ev_bcd : Rd ((cw (wr.drew.alloc (.cells #[.string x] 9))).alloc (.cells #[.slice (some ⟨wr.heap.size + 1, 0, none⟩) y.size (cp (wr.drew.alloc (.cells #[.string x] 9)))] 26)) 1 (some ⟨(cw (wr.drew.alloc (.cells #[.string x] 9))).heap.size, 0, none⟩) 1 [.slice (some ⟨wr.heap.size + 1, 0, none⟩) y.size (cp (wr.drew.alloc (.cells #[.string x] 9)))] := rd_one (cw (wr.drew.alloc (.cells #[.string x] 9))) 26 _
            have ev_cbd : Rd (((cw wr.drew).alloc (.cells #[.string x] 9)).alloc (.cells #[.slice (some ⟨wr.heap.size, 0, none⟩) y.size (cp wr.drew)] 26)) 1 (some ⟨(cw wr.drew).heap.size + 1, 0, none⟩) 1 [.slice (some ⟨wr.heap.size, 0, none⟩) y.size (cp wr.drew)] := by have h := rd_one ((cw wr.drew).alloc (.cells #[.string x] 9)) 26 (.slice (some ⟨wr.heap.size, 0, none⟩) y.size (cp wr.drew)); rw [World.size_alloc] at h; exact h
            have ev_cdb : Rd (((cw wr.drew).alloc (.cells #[.slice (some ⟨wr.heap.size, 0, none⟩) y.size (cp wr.drew)] 26)).alloc (.cells #[.string x] 9)) 1 (some ⟨(cw wr.drew).heap.size, 0, none⟩) 1 [.slice (some ⟨wr.heap.size, 0, none⟩) y.size (cp wr.drew)] := ev_cd.keeps ((Keeps.refl (fun _ => False) _).alloc _) (fun _ _ h => h)
            go_wp2_with fail
            rw [show Op.convert 9 26 (.tmp 52) = cvOp 9 26 (.tmp 52) from rfl]
            go_region_held3 (fun w' => w'.cell? (ad.add k) = some (.slice (some bd) mm d) ∧ w'.cell? (bd.add (q * 2)) = some (.string x) ∧ w'.cell? { block := (bd.add (q * 2)).block, off := (bd.add (q * 2)).off + 1 } = some (.string y)) (first | exact s_a | exact s_b | exact s_c | exact s_bc | exact s_cb | exact s_cd | exact s_bcd | exact s_cbd | exact s_cdb | exact s5 | exact sA | exact sE | exact hS _ _ (HCW.out wA).1 sA | exact hS _ _ ((HCW.out wA).1.alloc _) sA | exact hS _ _ ((Keeps.refl (fun _ => False) wA).alloc _) sA | exact hS _ _ ((Keeps.refl (fun _ => False) wE).alloc _) sE) (first
              | (refine step_append_rd _ rfl (.tmp 44) (.tmp 54) _ rfl w2.heap.size 26 j0 _ 1 24 Tryz.underlying33 hj0 hy0 hy1 hy2 rfl Nat.one_pos V cv nv _ rfl (hA.new ((HCW.out wA).1.alloc (.cells #[.slice (some ⟨wA.heap.size, 0, none⟩) y.size (cp wA)] 26))).oV (some ⟨(cw wA).heap.size, 0, none⟩) 1 1 [.slice (some ⟨wA.heap.size, 0, none⟩) y.size (cp wA)] rfl (rd_one (cw wA) 26 _) (one_val _ rfl) (by simp only [maxLen]; omega) (by omega) (Nat.le_trans HKo.out.size (hA.new ((HCW.out wA).1.alloc (.cells #[.slice (some ⟨wA.heap.size, 0, none⟩) y.size (cp wA)] 26))).kp.size) ?_; intro V2 cv2 w5 oo hg hat; have h5 := (hA.new ((HCW.out wA).1.alloc (.cells #[.slice (some ⟨wA.heap.size, 0, none⟩) y.size (cp wA)] 26))).stepVn (sl_length y) ((HCW.out wA).2.2.1.keeps ((Keeps.refl (fun _ => False) _).alloc _) (fun _ _ h => h)) ((HCW.out wA).2.2.2.keeps ((Keeps.refl (fun _ => False) _).alloc _) (fun h => h)) hg oo hat; have s5 : (fun w' => w'.cell? (ad.add k) = some (.slice (some bd) mm d) ∧ w'.cell? (bd.add (q * 2)) = some (.string x) ∧ w'.cell? { block := (bd.add (q * 2)).block, off := (bd.add (q * 2)).off + 1 } = some (.string y)) w5 := ⟨cellG hg (hS _ _ ((HCW.out wA).1.alloc (.cells #[.slice (some ⟨wA.heap.size, 0, none⟩) y.size (cp wA)] 26)) sA).1 nVa, cellG hg (hS _ _ ((HCW.out wA).1.alloc (.cells #[.slice (some ⟨wA.heap.size, 0, none⟩) y.size (cp wA)] 26)) sA).2.1 nVb, cellG hg (hS _ _ ((HCW.out wA).1.alloc (.cells #[.slice (some ⟨wA.heap.size, 0, none⟩) y.size (cp wA)] 26)) sA).2.2 nVb⟩)
              | (refine step_append_rd _ rfl (.tmp 44) (.tmp 54) _ rfl w2.heap.size 26 j0 _ 1 24 Tryz.underlying33 hj0 hy0 hy1 hy2 rfl Nat.one_pos V cv nv _ rfl (hA.new ((Keeps.refl (fun _ => False) wA).alloc (.cells #[.slice (some ⟨wr.heap.size + 1, 0, none⟩) y.size (cp (wr.drew.alloc (.cells #[.string x] 9)))] 26))).oV (some ⟨wA.heap.size, 0, none⟩) 1 1 [.slice (some ⟨wr.heap.size + 1, 0, none⟩) y.size (cp (wr.drew.alloc (.cells #[.string x] 9)))] rfl (rd_one wA 26 _) (one_val _ rfl) (by simp only [maxLen]; omega) (by omega) (Nat.le_trans HKo.out.size (hA.new ((Keeps.refl (fun _ => False) wA).alloc (.cells #[.slice (some ⟨wr.heap.size + 1, 0, none⟩) y.size (cp (wr.drew.alloc (.cells #[.string x] 9)))] 26))).kp.size) ?_; intro V2 cv2 w5 oo hg hat; have h5 := (hA.new ((Keeps.refl (fun _ => False) wA).alloc (.cells #[.slice (some ⟨wr.heap.size + 1, 0, none⟩) y.size (cp (wr.drew.alloc (.cells #[.string x] 9)))] 26))).stepVn (sl_length y) (brA.keeps ((Keeps.refl (fun _ => False) _).alloc _) (fun _ _ h => h)) (tbA.keeps ((Keeps.refl (fun _ => False) _).alloc _) (fun h => h)) hg oo hat; have s5 : (fun w' => w'.cell? (ad.add k) = some (.slice (some bd) mm d) ∧ w'.cell? (bd.add (q * 2)) = some (.string x) ∧ w'.cell? { block := (bd.add (q * 2)).block, off := (bd.add (q * 2)).off + 1 } = some (.string y)) w5 := ⟨cellG hg (hS _ _ ((Keeps.refl (fun _ => False) wA).alloc (.cells #[.slice (some ⟨wr.heap.size + 1, 0, none⟩) y.size (cp (wr.drew.alloc (.cells #[.string x] 9)))] 26)) sA).1 nVa, cellG hg (hS _ _ ((Keeps.refl (fun _ => False) wA).alloc (.cells #[.slice (some ⟨wr.heap.size + 1, 0, none⟩) y.size (cp (wr.drew.alloc (.cells #[.string x] 9)))] 26)) sA).2.1 nVb, cellG hg (hS _ _ ((Keeps.refl (fun _ => False) wA).alloc (.cells #[.slice (some ⟨wr.heap.size + 1, 0, none⟩) y.size (cp (wr.drew.alloc (.cells #[.string x] 9)))] 26)) sA).2.2 nVb⟩)
              | (refine step_append_rd _ rfl (.tmp 44) (.tmp 54) _ rfl w2.heap.size 26 j0 _ 1 24 Tryz.underlying33 hj0 hy0 hy1 hy2 rfl Nat.one_pos V cv nv _ rfl (hA.new ((Keeps.refl (fun _ => False) wA).alloc (.cells #[.slice (some ⟨wr.heap.size, 0, none⟩) y.size (cp wr.drew)] 26))).oV (some ⟨wA.heap.size, 0, none⟩) 1 1 [.slice (some ⟨wr.heap.size, 0, none⟩) y.size (cp wr.drew)] rfl (rd_one wA 26 _) (one_val _ rfl) (by simp only [maxLen]; omega) (by omega) (Nat.le_trans HKo.out.size (hA.new ((Keeps.refl (fun _ => False) wA).alloc (.cells #[.slice (some ⟨wr.heap.size, 0, none⟩) y.size (cp wr.drew)] 26))).kp.size) ?_; intro V2 cv2 w5 oo hg hat; have h5 := (hA.new ((Keeps.refl (fun _ => False) wA).alloc (.cells #[.slice (some ⟨wr.heap.size, 0, none⟩) y.size (cp wr.drew)] 26))).stepVn (sl_length y) (brA.keeps ((Keeps.refl (fun _ => False) _).alloc _) (fun _ _ h => h)) (tbA.keeps ((Keeps.refl (fun _ => False) _).alloc _) (fun h => h)) hg oo hat; have s5 : (fun w' => w'.cell? (ad.add k) = some (.slice (some bd) mm d) ∧ w'.cell? (bd.add (q * 2)) = some (.string x) ∧ w'.cell? { block := (bd.add (q * 2)).block, off := (bd.add (q * 2)).off + 1 } = some (.string y)) w5 := ⟨cellG hg (hS _ _ ((Keeps.refl (fun _ => False) wA).alloc (.cells #[.slice (some ⟨wr.heap.size, 0, none⟩) y.size (cp wr.drew)] 26)) sA).1 nVa, cellG hg (hS _ _ ((Keeps.refl (fun _ => False) wA).alloc (.cells #[.slice (some ⟨wr.heap.size, 0, none⟩) y.size (cp wr.drew)] 26)) sA).2.1 nVb, cellG hg (hS _ _ ((Keeps.refl (fun _ => False) wA).alloc (.cells #[.slice (some ⟨wr.heap.size, 0, none⟩) y.size (cp wr.drew)] 26)) sA).2.2 nVb⟩)
              | (refine step_append_rd _ rfl (.tmp 44) (.tmp 54) _ rfl w2.heap.size 26 j0 _ 1 24 Tryz.underlying33 hj0 hy0 hy1 hy2 rfl Nat.one_pos V cv nv _ rfl hA.oV (some ⟨(cw (wr.drew.alloc (.cells #[.string x] 9))).heap.size, 0, none⟩) 1 1 [.slice (some ⟨wr.heap.size + 1, 0, none⟩) y.size (cp (wr.drew.alloc (.cells #[.string x] 9)))] rfl evA (one_val _ rfl) (by simp only [maxLen]; omega) (by omega) (Nat.le_trans HKo.out.size hA.kp.size) ?_; intro V2 cv2 w5 oo hg hat; have h5 := hA.stepVn (sl_length y) brA tbA hg oo hat; have s5 : (fun w' => w'.cell? (ad.add k) = some (.slice (some bd) mm d) ∧ w'.cell? (bd.add (q * 2)) = some (.string x) ∧ w'.cell? { block := (bd.add (q * 2)).block, off := (bd.add (q * 2)).off + 1 } = some (.string y)) w5 := ⟨cellG hg sA.1 nVa, cellG hg sA.2.1 nVb, cellG hg sA.2.2 nVb⟩)
              | (refine step_append_rd _ rfl (.tmp 44) (.tmp 54) _ rfl w2.heap.size 26 j0 _ 1 24 Tryz.underlying33 hj0 hy0 hy1 hy2 rfl Nat.one_pos V cv nv _ rfl hA.oV (some ⟨(cw wr.drew).heap.size + 1, 0, none⟩) 1 1 [.slice (some ⟨wr.heap.size, 0, none⟩) y.size (cp wr.drew)] rfl evA (one_val _ rfl) (by simp only [maxLen]; omega) (by omega) (Nat.le_trans HKo.out.size hA.kp.size) ?_; intro V2 cv2 w5 oo hg hat; have h5 := hA.stepVn (sl_length y) brA tbA hg oo hat; have s5 : (fun w' => w'.cell? (ad.add k) = some (.slice (some bd) mm d) ∧ w'.cell? (bd.add (q * 2)) = some (.string x) ∧ w'.cell? { block := (bd.add (q * 2)).block, off := (bd.add (q * 2)).off + 1 } = some (.string y)) w5 := ⟨cellG hg sA.1 nVa, cellG hg sA.2.1 nVb, cellG hg sA.2.2 nVb⟩)
              | (refine step_append_rd _ rfl (.tmp 44) (.tmp 54) _ rfl w2.heap.size 26 j0 _ 1 24 Tryz.underlying33 hj0 hy0 hy1 hy2 rfl Nat.one_pos V cv nv _ rfl hA.oV (some ⟨(cw wr.drew).heap.size, 0, none⟩) 1 1 [.slice (some ⟨wr.heap.size, 0, none⟩) y.size (cp wr.drew)] rfl evA (one_val _ rfl) (by simp only [maxLen]; omega) (by omega) (Nat.le_trans HKo.out.size hA.kp.size) ?_; intro V2 cv2 w5 oo hg hat; have h5 := hA.stepVn (sl_length y) brA tbA hg oo hat; have s5 : (fun w' => w'.cell? (ad.add k) = some (.slice (some bd) mm d) ∧ w'.cell? (bd.add (q * 2)) = some (.string x) ∧ w'.cell? { block := (bd.add (q * 2)).block, off := (bd.add (q * 2)).off + 1 } = some (.string y)) w5 := ⟨cellG hg sA.1 nVa, cellG hg sA.2.1 nVb, cellG hg sA.2.2 nVb⟩)
              | (refine step_append_rd _ rfl (.tmp 33) (.tmp 42) _ rfl wo.heap.size 9 i0 _ 1 16 Tryz.underlying22 hi0 hz0 hz1 hz2 rfl Nat.one_pos K ck q _ rfl (hE.new ((Keeps.refl (fun _ => False) wE).alloc (.cells #[.string x] 9))).oK (some ⟨wE.heap.size, 0, none⟩) 1 1 [.string x] rfl (rd_one wE 9 (.string x)) (one_val _ rfl) (by simp only [maxLen]; omega) (by omega) (hE.new ((Keeps.refl (fun _ => False) wE).alloc (.cells #[.string x] 9))).kp.size ?_; intro K2 ck2 w5 oo hg hat; have h5 := (hE.new ((Keeps.refl (fun _ => False) wE).alloc (.cells #[.string x] 9))).stepK hg oo; have s5 : (fun w' => w'.cell? (ad.add k) = some (.slice (some bd) mm d) ∧ w'.cell? (bd.add (q * 2)) = some (.string x) ∧ w'.cell? { block := (bd.add (q * 2)).block, off := (bd.add (q * 2)).off + 1 } = some (.string y)) w5 := ⟨cellG hg (hS _ _ ((Keeps.refl (fun _ => False) wE).alloc (.cells #[.string x] 9)) sE).1 nKa, cellG hg (hS _ _ ((Keeps.refl (fun _ => False) wE).alloc (.cells #[.string x] 9)) sE).2.1 nKb, cellG hg (hS _ _ ((Keeps.refl (fun _ => False) wE).alloc (.cells #[.string x] 9)) sE).2.2 nKb⟩)
              | (refine step_append_rd _ rfl (.tmp 33) (.tmp 42) _ rfl wo.heap.size 9 i0 _ 1 16 Tryz.underlying22 hi0 hz0 hz1 hz2 rfl Nat.one_pos K ck q _ rfl hE.oK (some ⟨wr.heap.size, 0, none⟩) 1 1 [.string x] rfl ekE (one_val _ rfl) (by simp only [maxLen]; omega) (by omega) hE.kp.size ?_; intro K2 ck2 w5 oo hg hat; have h5 := hE.stepK hg oo; have s5 : (fun w' => w'.cell? (ad.add k) = some (.slice (some bd) mm d) ∧ w'.cell? (bd.add (q * 2)) = some (.string x) ∧ w'.cell? { block := (bd.add (q * 2)).block, off := (bd.add (q * 2)).off + 1 } = some (.string y)) w5 := ⟨cellG hg sE.1 nKa, cellG hg sE.2.1 nKb, cellG hg sE.2.2 nKb⟩)
              | (refine step_append_rd _ rfl (.tmp 33) (.tmp 42) _ rfl wo.heap.size 9 i0 _ 1 16 Tryz.underlying22 hi0 hz0 hz1 hz2 rfl Nat.one_pos K ck q _ rfl hE.oK (some ⟨(cw wr.drew).heap.size, 0, none⟩) 1 1 [.string x] rfl ekE (one_val _ rfl) (by simp only [maxLen]; omega) (by omega) hE.kp.size ?_; intro K2 ck2 w5 oo hg hat; have h5 := hE.stepK hg oo; have s5 : (fun w' => w'.cell? (ad.add k) = some (.slice (some bd) mm d) ∧ w'.cell? (bd.add (q * 2)) = some (.string x) ∧ w'.cell? { block := (bd.add (q * 2)).block, off := (bd.add (q * 2)).off + 1 } = some (.string y)) w5 := ⟨cellG hg sE.1 nKa, cellG hg sE.2.1 nKb, cellG hg sE.2.2 nKb⟩)
              | (refine step_append_rd _ rfl (.tmp 33) (.tmp 42) _ rfl wo.heap.size 9 i0 _ 1 16 Tryz.underlying22 hi0 hz0 hz1 hz2 rfl Nat.one_pos K ck q _ rfl hE.oK (some ⟨(cw wr.drew).heap.size + 1, 0, none⟩) 1 1 [.string x] rfl ekE (one_val _ rfl) (by simp only [maxLen]; omega) (by omega) hE.kp.size ?_; intro K2 ck2 w5 oo hg hat; have h5 := hE.stepK hg oo; have s5 : (fun w' => w'.cell? (ad.add k) = some (.slice (some bd) mm d) ∧ w'.cell? (bd.add (q * 2)) = some (.string x) ∧ w'.cell? { block := (bd.add (q * 2)).block, off := (bd.add (q * 2)).off + 1 } = some (.string y)) w5 := ⟨cellG hg sE.1 nKa, cellG hg sE.2.1 nKb, cellG hg sE.2.2 nKb⟩)
              | (refine step_append_rd _ rfl (.tmp 33) (.tmp 42) _ rfl wo.heap.size 9 i0 _ 1 16 Tryz.underlying22 hi0 hz0 hz1 hz2 rfl Nat.one_pos K ck q _ rfl (h0.new k_bcd).oK (some ⟨wr.heap.size, 0, none⟩) 1 1 [.string x] rfl ek_bcd (one_val _ rfl) (by simp only [maxLen]; omega) (by omega) (h0.new k_bcd).kp.size ?_; intro K2 ck2 wA oo hg hat; have hA := (h0.new k_bcd).stepK hg oo; have sA : (fun w' => w'.cell? (ad.add k) = some (.slice (some bd) mm d) ∧ w'.cell? (bd.add (q * 2)) = some (.string x) ∧ w'.cell? { block := (bd.add (q * 2)).block, off := (bd.add (q * 2)).off + 1 } = some (.string y)) wA := ⟨cellG hg s_bcd.1 nKa, cellG hg s_bcd.2.1 nKb, cellG hg s_bcd.2.2 nKb⟩; have brA := rdG hg br_bcd (by intro z hz hz2; have h1 := lK z hz2; simp [ob] at hz; have := HZC.out; have := HZBC.out; omega); have tbA := tbG hg tb_bcd (by intro h; have h1 := lK _ h; omega); have evA := rdG hg ev_bcd (by intro z hz hz2; have h1 := lK z hz2; simp [ob] at hz; have := HZC.out; have := HZBC.out; omega))
              | (refine step_append_rd _ rfl (.tmp 33) (.tmp 42) _ rfl wo.heap.size 9 i0 _ 1 16 Tryz.underlying22 hi0 hz0 hz1 hz2 rfl Nat.one_pos K ck q _ rfl (h0.new k_cbd).oK (some ⟨(cw wr.drew).heap.size, 0, none⟩) 1 1 [.string x] rfl ek_cbd (one_val _ rfl) (by simp only [maxLen]; omega) (by omega) (h0.new k_cbd).kp.size ?_; intro K2 ck2 wA oo hg hat; have hA := (h0.new k_cbd).stepK hg oo; have sA : (fun w' => w'.cell? (ad.add k) = some (.slice (some bd) mm d) ∧ w'.cell? (bd.add (q * 2)) = some (.string x) ∧ w'.cell? { block := (bd.add (q * 2)).block, off := (bd.add (q * 2)).off + 1 } = some (.string y)) wA := ⟨cellG hg s_cbd.1 nKa, cellG hg s_cbd.2.1 nKb, cellG hg s_cbd.2.2 nKb⟩; have brA := rdG hg br_cbd (by intro z hz hz2; have h1 := lK z hz2; simp [ob] at hz; have := HZC.out; have := HZBC.out; omega); have tbA := tbG hg tb_cbd (by intro h; have h1 := lK _ h; omega); have evA := rdG hg ev_cbd (by intro z hz hz2; have h1 := lK z hz2; simp [ob] at hz; have := HZC.out; have := HZBC.out; omega))
              | (refine step_append_rd _ rfl (.tmp 33) (.tmp 42) _ rfl wo.heap.size 9 i0 _ 1 16 Tryz.underlying22 hi0 hz0 hz1 hz2 rfl Nat.one_pos K ck q _ rfl (h0.new k_cdb).oK (some ⟨(cw wr.drew).heap.size + 1, 0, none⟩) 1 1 [.string x] rfl ek_cdb (one_val _ rfl) (by simp only [maxLen]; omega) (by omega) (h0.new k_cdb).kp.size ?_; intro K2 ck2 wA oo hg hat; have hA := (h0.new k_cdb).stepK hg oo; have sA : (fun w' => w'.cell? (ad.add k) = some (.slice (some bd) mm d) ∧ w'.cell? (bd.add (q * 2)) = some (.string x) ∧ w'.cell? { block := (bd.add (q * 2)).block, off := (bd.add (q * 2)).off + 1 } = some (.string y)) wA := ⟨cellG hg s_cdb.1 nKa, cellG hg s_cdb.2.1 nKb, cellG hg s_cdb.2.2 nKb⟩; have brA := rdG hg br_cdb (by intro z hz hz2; have h1 := lK z hz2; simp [ob] at hz; have := HZC.out; have := HZBC.out; omega); have tbA := tbG hg tb_cdb (by intro h; have h1 := lK _ h; omega); have evA := rdG hg ev_cdb (by intro z hz hz2; have h1 := lK z hz2; simp [ob] at hz; have := HZC.out; have := HZBC.out; omega))
              | (refine step_append_rd _ rfl (.tmp 33) (.tmp 42) _ rfl wo.heap.size 9 i0 _ 1 16 Tryz.underlying22 hi0 hz0 hz1 hz2 rfl Nat.one_pos K ck q _ rfl (h0.new k_bc).oK (some ⟨wr.heap.size, 0, none⟩) 1 1 [.string x] rfl ek_bc (one_val _ rfl) (by simp only [maxLen]; omega) (by omega) (h0.new k_bc).kp.size ?_; intro K2 ck2 wA oo hg hat; have hA := (h0.new k_bc).stepK hg oo; have sA : (fun w' => w'.cell? (ad.add k) = some (.slice (some bd) mm d) ∧ w'.cell? (bd.add (q * 2)) = some (.string x) ∧ w'.cell? { block := (bd.add (q * 2)).block, off := (bd.add (q * 2)).off + 1 } = some (.string y)) wA := ⟨cellG hg s_bc.1 nKa, cellG hg s_bc.2.1 nKb, cellG hg s_bc.2.2 nKb⟩; have brA := rdG hg br_bc (by intro z hz hz2; have h1 := lK z hz2; simp [ob] at hz; have := HZC.out; have := HZBC.out; omega); have tbA := tbG hg tb_bc (by intro h; have h1 := lK _ h; omega))
              | (refine step_append_rd _ rfl (.tmp 33) (.tmp 42) _ rfl wo.heap.size 9 i0 _ 1 16 Tryz.underlying22 hi0 hz0 hz1 hz2 rfl Nat.one_pos K ck q _ rfl (h0.new k_cb).oK (some ⟨(cw wr.drew).heap.size, 0, none⟩) 1 1 [.string x] rfl ek_cb (one_val _ rfl) (by simp only [maxLen]; omega) (by omega) (h0.new k_cb).kp.size ?_; intro K2 ck2 wA oo hg hat; have hA := (h0.new k_cb).stepK hg oo; have sA : (fun w' => w'.cell? (ad.add k) = some (.slice (some bd) mm d) ∧ w'.cell? (bd.add (q * 2)) = some (.string x) ∧ w'.cell? { block := (bd.add (q * 2)).block, off := (bd.add (q * 2)).off + 1 } = some (.string y)) wA := ⟨cellG hg s_cb.1 nKa, cellG hg s_cb.2.1 nKb, cellG hg s_cb.2.2 nKb⟩; have brA := rdG hg br_cb (by intro z hz hz2; have h1 := lK z hz2; simp [ob] at hz; have := HZC.out; have := HZBC.out; omega); have tbA := tbG hg tb_cb (by intro h; have h1 := lK _ h; omega))
              | (refine step_append_rd _ rfl (.tmp 33) (.tmp 42) _ rfl wo.heap.size 9 i0 _ 1 16 Tryz.underlying22 hi0 hz0 hz1 hz2 rfl Nat.one_pos K ck q _ rfl (h0.new k_b).oK (some ⟨wr.heap.size, 0, none⟩) 1 1 [.string x] rfl ek_b (one_val _ rfl) (by simp only [maxLen]; omega) (by omega) (h0.new k_b).kp.size ?_; intro K2 ck2 wA oo hg hat; have hA := (h0.new k_b).stepK hg oo; have sA : (fun w' => w'.cell? (ad.add k) = some (.slice (some bd) mm d) ∧ w'.cell? (bd.add (q * 2)) = some (.string x) ∧ w'.cell? { block := (bd.add (q * 2)).block, off := (bd.add (q * 2)).off + 1 } = some (.string y)) wA := ⟨cellG hg s_b.1 nKa, cellG hg s_b.2.1 nKb, cellG hg s_b.2.2 nKb⟩)
              | (refine step_append_rd _ rfl (.tmp 44) (.tmp 54) _ rfl w2.heap.size 26 j0 _ 1 24 Tryz.underlying33 hj0 hy0 hy1 hy2 rfl Nat.one_pos V cv nv _ rfl (h0.new k_bcd).oV (some ⟨(cw (wr.drew.alloc (.cells #[.string x] 9))).heap.size, 0, none⟩) 1 1 [.slice (some ⟨wr.heap.size + 1, 0, none⟩) y.size (cp (wr.drew.alloc (.cells #[.string x] 9)))] rfl ev_bcd (one_val _ rfl) (by simp only [maxLen]; omega) (by omega) (Nat.le_trans HKo.out.size (h0.new k_bcd).kp.size) ?_; intro V2 cv2 wE oo hg hat; have hE := (h0.new k_bcd).stepVn (sl_length y) br_bcd tb_bcd hg oo hat; have sE : (fun w' => w'.cell? (ad.add k) = some (.slice (some bd) mm d) ∧ w'.cell? (bd.add (q * 2)) = some (.string x) ∧ w'.cell? { block := (bd.add (q * 2)).block, off := (bd.add (q * 2)).off + 1 } = some (.string y)) wE := ⟨cellG hg s_bcd.1 nVa, cellG hg s_bcd.2.1 nVb, cellG hg s_bcd.2.2 nVb⟩; have ekE := rdG hg ek_bcd (by intro z hz hz2; have h1 := lV z hz2; simp [ob] at hz; have := HZC.out; have := HZBC.out; omega))
              | (refine step_append_rd _ rfl (.tmp 44) (.tmp 54) _ rfl w2.heap.size 26 j0 _ 1 24 Tryz.underlying33 hj0 hy0 hy1 hy2 rfl Nat.one_pos V cv nv _ rfl (h0.new k_cbd).oV (some ⟨(cw wr.drew).heap.size + 1, 0, none⟩) 1 1 [.slice (some ⟨wr.heap.size, 0, none⟩) y.size (cp wr.drew)] rfl ev_cbd (one_val _ rfl) (by simp only [maxLen]; omega) (by omega) (Nat.le_trans HKo.out.size (h0.new k_cbd).kp.size) ?_; intro V2 cv2 wE oo hg hat; have hE := (h0.new k_cbd).stepVn (sl_length y) br_cbd tb_cbd hg oo hat; have sE : (fun w' => w'.cell? (ad.add k) = some (.slice (some bd) mm d) ∧ w'.cell? (bd.add (q * 2)) = some (.string x) ∧ w'.cell? { block := (bd.add (q * 2)).block, off := (bd.add (q * 2)).off + 1 } = some (.string y)) wE := ⟨cellG hg s_cbd.1 nVa, cellG hg s_cbd.2.1 nVb, cellG hg s_cbd.2.2 nVb⟩; have ekE := rdG hg ek_cbd (by intro z hz hz2; have h1 := lV z hz2; simp [ob] at hz; have := HZC.out; have := HZBC.out; omega))
              | (refine step_append_rd _ rfl (.tmp 44) (.tmp 54) _ rfl w2.heap.size 26 j0 _ 1 24 Tryz.underlying33 hj0 hy0 hy1 hy2 rfl Nat.one_pos V cv nv _ rfl (h0.new k_cdb).oV (some ⟨(cw wr.drew).heap.size, 0, none⟩) 1 1 [.slice (some ⟨wr.heap.size, 0, none⟩) y.size (cp wr.drew)] rfl ev_cdb (one_val _ rfl) (by simp only [maxLen]; omega) (by omega) (Nat.le_trans HKo.out.size (h0.new k_cdb).kp.size) ?_; intro V2 cv2 wE oo hg hat; have hE := (h0.new k_cdb).stepVn (sl_length y) br_cdb tb_cdb hg oo hat; have sE : (fun w' => w'.cell? (ad.add k) = some (.slice (some bd) mm d) ∧ w'.cell? (bd.add (q * 2)) = some (.string x) ∧ w'.cell? { block := (bd.add (q * 2)).block, off := (bd.add (q * 2)).off + 1 } = some (.string y)) wE := ⟨cellG hg s_cdb.1 nVa, cellG hg s_cdb.2.1 nVb, cellG hg s_cdb.2.2 nVb⟩; have ekE := rdG hg ek_cdb (by intro z hz hz2; have h1 := lV z hz2; simp [ob] at hz; have := HZC.out; have := HZBC.out; omega))
              | (refine step_append_rd _ rfl (.tmp 44) (.tmp 54) _ rfl w2.heap.size 26 j0 _ 1 24 Tryz.underlying33 hj0 hy0 hy1 hy2 rfl Nat.one_pos V cv nv _ rfl (h0.new k_cd).oV (some ⟨(cw wr.drew).heap.size, 0, none⟩) 1 1 [.slice (some ⟨wr.heap.size, 0, none⟩) y.size (cp wr.drew)] rfl ev_cd (one_val _ rfl) (by simp only [maxLen]; omega) (by omega) (Nat.le_trans HKo.out.size (h0.new k_cd).kp.size) ?_; intro V2 cv2 wE oo hg hat; have hE := (h0.new k_cd).stepVn (sl_length y) br_cd tb_cd hg oo hat; have sE : (fun w' => w'.cell? (ad.add k) = some (.slice (some bd) mm d) ∧ w'.cell? (bd.add (q * 2)) = some (.string x) ∧ w'.cell? { block := (bd.add (q * 2)).block, off := (bd.add (q * 2)).off + 1 } = some (.string y)) wE := ⟨cellG hg s_cd.1 nVa, cellG hg s_cd.2.1 nVb, cellG hg s_cd.2.2 nVb⟩))
            all_goals
              rw [HSK.out, List.append_assoc, HSV.out] at h5
              have H5 := Lib.hid h5
              clear h5 s5 k_a s_a k_b s_b k_c s_c k_bc s_bc k_cb s_cb k_cd s_cd k_bcd s_bcd k_cbd s_cbd k_cdb s_cdb HZC HZBC ek_b ek_bc ek_bcd ek_cb ek_cbd ek_cdb br_c tb_c br_bc tb_bc br_cb tb_cb br_cd tb_cd br_bcd tb_bcd br_cbd tb_cbd br_cdb tb_cdb ev_cd ev_bcd ev_cbd ev_cdb
              go_wp2_with fail
              go_roundw
              case rel => exact ⟨q + 1, K2, ck2, V2, nv + 1, cv2, _, by omega, by omega, by go_num, rfl, rfl, H5.out⟩
              case measure => (first | (simp [RowKit.intOf]; done) | (simp [RowKit.intOf]; omega))
          · have hqm : q = mm := by omega
            subst hqm
            have eT : L.take q = L := List.take_of_length_le (by rw [HMM.out]; exact Nat.le_refl _)
            rw [eT] at h0
            have hKw := HKo.out.trans h0.kp (fun i hi h => by have := HLO.out i h; omega)
            have nO0 : ∀ z, ob KO = some z → ob V0 ≠ some z := fun z hz => own_ne HOV.out (own_tblk HOO.out z hz) (by decide)
            have hoO := own_keeps HOO.out h0.kp (fun z hz h => by rw [ownBlock_slice] at hz; exact nO0 z hz h)
            have hKA := HKA.out.keeps h0.kp (fun z hz h => own_ne HOV.out hz (by decide) h)
            have KX := (Keeps.refl (fun _ => False) wr).alloc (.cells #[.slice K q ck] 22)
            have hoa := own_keeps hoO KX (fun _ _ h => h)
            have hKa := hKw.trans KX (fun _ _ h => h)
            have hKAa := hKA.keeps KX (fun _ _ h => h)
            have h0a := h0.new KX
            have hkl : (keysOf L).length = q := by rw [keysOf, List.length_map]; exact HMM.out
            have HKL := Lib.hid hkl
            have HH0 := Lib.hid h0a
            have HKAA := Lib.hid hKAa
            clear hoO hKA KX h0 hKw hKAa h0a hkl hlt2
            go_wp2_with (at_builtin
                         refine wpList_append_rd _ rfl (.tmp 56) (.tmp 58) _ rfl w2.heap.size 22 l0 _ 1 24 Tryz.underlying25 hl0 hx0 hx1 hx2 rfl Nat.one_pos KO co k _ rfl hoa (some ⟨wr.heap.size, 0, none⟩) 1 1 [.slice K q ck] rfl (rd_one wr 22 _) (one_val _ rfl) (by simp only [maxLen]; omega) (by omega) hKa.size ?_
                         intro KO3 co3 w9 o9 hg9 hat9)
            have hK9 := hKa.grown hg9 (fun i hi => .inr (hoa.lt i (by rw [ownBlock_slice]; exact hi)).1)
            have Kg : Keeps (fun i => ob KO = some i) _ w9 := (Keeps.refl _ _).grown hg9 (fun k hk => .inl hk)
            have hoK9 := own_keeps HH0.out.oK Kg (fun z hz h => by rw [ownBlock_slice] at hz; exact own_ne hoa (own_tblk HH0.out.oK z hz) (by decide) h)
            have hoV9 := own_keeps HH0.out.oV Kg (fun z hz h => by rw [ownBlock_slice] at hz; exact own_ne hoa (own_tblk HH0.out.oV z hz) (by decide) h)
            have hbV9 := HH0.out.bV.keeps Kg (fun z hz h => own_ne hoa hz (by decide) h)
            have hKA9 := (HKAA.out.keeps Kg (fun z hz h => own_ne hoa hz (by decide) h)).snoc (xs := keysOf L) (B := K) (d := ck) (by rw [HKL.out]; exact Rd.own hoK9) (own_tblk hoK9)
            rw [HKL.out] at hKA9
            have e1 : (X.take (k + 1)).map keysOf = (X.take k).map keysOf ++ [keysOf L] := by rw [HT.out, List.map_append]; rfl
            have e2 : valB (X.take (k + 1)).flatten = valB (X.take k).flatten ++ valB L := by rw [HT.out, List.flatten_append, valB, valB, valB, List.map_append]; simp
            rw [← e1] at hKA9
            rw [← e2] at hbV9
            have R1 := Lib.hid o9
            have R2 := Lib.hid hKA9
            have R3 := Lib.hid hoV9
            have R4 := Lib.hid hbV9
            have R5 := Lib.hid hK9
            clear o9 hKA9 hoV9 hbV9 hK9 hoK9 Kg hoa hKa e1 e2
            go_roundw
            case rel => exact ⟨k + 1, KO3, co3, _, V, nv, cv, VV, by omega, by omega, by go_num, rfl, rfl, R1.out, R2.out, R3.out, R4.out, R5.out⟩
            case measure => (first | (simp [RowKit.intOf]; done) | (simp [RowKit.intOf]; omega))
      · have hkn : k = nx := by omega
        subst hkn
        have eT : X.take k = X := List.take_of_length_le (by rw [HNX.out]; exact Nat.le_refl _)
        have hKA := HKA.out
        have hBA := HBA.out
        rw [eT] at hKA hBA
        have hrows := hKA.rows HOO.out
        have hvr := hBA.rows HOV.out
        have hnvl : (valB X.flatten).length = nv0 := by have h1 := HOV.out.1; have h2 := hBA.1; omega
        have hx := HX3.out
        have hxf : ∀ p ∈ X.flatten, p.1.size ≤ 60 ∧ p.2.size ≤ 60 := fun p hp => by
          obtain ⟨L, hL, hm⟩ := List.mem_flatten.1 hp
          exact (hx L hL).2 p hm
        have hf : X.flatten.length ≤ 104 := Nat.le_trans (flat_boundK 8 _ fun L hL => (hx L hL).1) (by rw [← HNX.out]; omega)
        have hkf : (X.map keysOf).flatten = keysOf X.flatten := by rw [keysOf, List.map_flatten]; rfl
        have hkz : ((keysOf X.flatten).map sl).flatten.length ≤ 104000 := Nat.le_trans (sls_len Prod.fst X.flatten (fun p hp => by have := (hxf p hp).1; omega)) (by omega)
        have hek : (encB ((keysOf X.flatten).map sl)).length ≤ 10400 := by
          have h1 := encB_boundK ((keysOf X.flatten).map sl) (fun l hl => by obtain ⟨z, hz, rfl⟩ := List.mem_map.1 hl; obtain ⟨p, hp, rfl⟩ := List.mem_map.1 hz; rw [sl_length]; exact (hxf p hp).1)
          rw [List.length_map, keysOf, List.length_map, ← keysOf] at h1
          omega
        have hev : (encB (valB X.flatten)).length ≤ 10400 := by
          have h1 := encB_boundK (valB X.flatten) (fun l hl => by obtain ⟨p, hp, rfl⟩ := List.mem_map.1 hl; rw [sl_length]; exact (hxf p hp).2)
          rw [valB, List.length_map, ← valB] at h1
          omega
        have hdA : (arrB (X.map keysOf)).length = 8 * k + (encB ((keysOf X.flatten).map sl)).length := by
          rw [arrB, List.length_append, u64s_length, ends_length, List.length_map, List.length_map, hkf, ← HNX.out]
        have hsum := arr_map X
        have HA1 := Lib.hid (arStr wo KO k co (X.map keysOf) (by rw [List.length_map]; exact HNX.out.symm) hrows (fun L hL x hx2 => by
          obtain ⟨M, hM, rfl⟩ := List.mem_map.1 hL
          obtain ⟨p, hp, rfl⟩ := List.mem_map.1 hx2
          have := ((hx M hM).2 p hp).1
          omega) (by rw [hkf, keysOf, List.length_map]; omega) (by omega) (by rw [hkf]; omega) (by omega))
        have HA2 := Lib.hid (fun w3 (hR3 : RowsP w3 A2 X) => arMap w3 A2 k c2 X HNX.out.symm hR3 (fun p hp => by have := hxf p hp; omega) (by omega) (fun L hL => by have := (hx L hL).1; omega) b2 (by omega) (by rw [← hsum, List.length_append]; omega))
        have HSE := Lib.hid (fun wz (hz : RowsV wz V0 ((valB X.flatten).map Lib.byteCells)) => stEncode0 wz V0 nv0 cv0 (valB X.flatten) hnvl hz (by omega) (fun l hl => by obtain ⟨p, hp, rfl⟩ := List.mem_map.1 hl; rw [sl_length]; have := (hxf p hp).2; omega) (by omega))
        have hpos : 0 < (mpB (exOf X) (ksOf X) (vsOf X)).length := by rw [← hsum, List.length_append]; omega
        have hRP := HR2.out.keeps HKo.out
        have HVR := Lib.hid hvr
        have HRP := Lib.hid hRP
        have hnb : (arrB (X.map keysOf)).length ≤ 20000 := by omega
        clear hKA hBA hrows hvr hnvl hx hxf hf hkf hkz hek hdA eT hRP
        generalize hdd : mpB (exOf X) (ksOf X) (vsOf X) = dd at *
        generalize arrB (X.map keysOf) = d1 at *
        generalize encB (valB X.flatten) = d2 at *
        generalize (valB X.flatten).map Lib.byteCells = VB at *
        generalize hn1 : d1.length = n1 at *
        generalize hn2 : d2.length = n2 at *
        generalize hnd : dd.length = nd at *
        have hp0 : (0 : Int) < (nd : Int) := by omega
        have HSUM := Lib.hid hsum
        have HN1 := Lib.hid hn1
        have HN2 := Lib.hid hn2
        have HND := Lib.hid hnd
        clear hdd hsum hn1 hn2 hnd
        go_wp2_with fail
        refine HA1.out.mono ?_
        rintro e w3 ⟨Aa, ca, he, oa3, K3⟩
        rw [HN1.out] at he oa3
        subst he
        have HRA3 := Lib.hid (Rd.own oa3)
        have HK3 := Lib.hid K3
        have HRP3 := Lib.hid (HRP.out.keeps K3)
        clear oa3 K3
        go_wp2_with fail
        refine (HA2.out w3 HRP3.out).mono ?_
        rintro e w4 ⟨Ab, cb, he, ob4, K4⟩
        rw [HND.out] at he ob4
        subst he
        have K34 := HK3.out.trans K4 (fun _ _ h => h)
        have RA := Lib.hid (HRA3.out.keeps K4 (fun _ _ h => h))
        have RB4 := Lib.hid (Rd.own ob4)
        have RV := Lib.hid (HVR.out.keeps K34)
        have KW4 := Lib.hid ((HK12.out.trans HKo.out (fun _ _ h => h)).trans K34 (fun _ _ h => h))
        clear ob4 K4 K34
        have hkk := (Keeps.refl (fun _ => False) w4).drew
        have hcb := cv_tx (c := cb) (RB4.out.keeps hkk (fun _ _ h => h))
        go_wp2_with fail
        rw [show Op.convert 26 9 (.tmp 87) = cvOp 26 9 (.tmp 87) from rfl]
        go_region_held3 (fun w' => (convert 26 9 (.slice Ab nd cb)).run Tryz.prog w' = .ok (.string ⟨dd.toArray⟩) w') (first | exact hcb | exact cv_tx (c := cb) (RB4.out.keeps (hkk.alloc _) (fun _ _ h => h))) (first
          | (go_at_call 9; refine (stJoinTwo _ wz.heap.size 26 Aa Ae n1 ca n2 ce d1 d2 (Whole.new wz _ _) (RA.out.keeps (hkk.alloc _) (fun _ _ h => h)) (hoe.keeps ((Keeps.refl (fun _ => False) wz).alloc _) (fun _ _ h => h)) (by omega)).mono ?_; rintro e wj ⟨Aj, cj, rfl, oj, Kj, _⟩; rw [HSUM.out] at oj; have hcj := cv_tx (c := cj) (Rd.own oj); have hkf := (hkk.alloc _).trans Kj (fun _ _ h => h); have hcb := cv_tx (c := cb) (RB4.out.keeps hkf (fun _ _ h => h)))
          | (go_at_call 10; refine (HSE.out _ (RV.out.keeps hkk)).mono ?_; rintro e wz ⟨Ae, ce, he, oe, Kl⟩; rw [HN2.out] at he oe; subst he; have hoe := Rd.own oe; have hkk := hkk.trans Kl (fun _ _ h => h); have hcb := cv_tx (c := cb) (RB4.out.keeps hkk (fun _ _ h => h))))
        all_goals
          go_wp2_with fail
          go_ret
          exact ⟨rfl, (KW4.out.trans hkf (fun _ _ h => h)).below (Nat.le_refl _) (fun _ h => h.elim)⟩
end Go.Proofs.YtkgjchfbbpabpaaGreat
