/- spec.ARPairs. Conditions: sizes far below the machine's. -/
import Derived.Test.YtkgjchfbbpabpaaSpP
namespace Go.Proofs.Ytkgjchfbbpabpaa
open Go.RowKit Go.Lib
set_option linter.unusedVariables false
/-- Keys and values while they are gathered. -/
structure KvAt (w0 W : World) (K : Option Addr) (nk ck : Nat) (V : Option Addr) (nv cv : Nat) (ks vs : List Value) : Prop where
  oK : W.ownsRow w0.heap.size 9 1 (.slice K nk ck) nk ks
  oV : W.ownsRow w0.heap.size 9 1 (.slice V nv cv) nv vs
  far : ∀ q, ob K = some q → ob V ≠ some q
  kp : Keeps (fun _ => False) w0 W
section
variable {w0 W W' : World} {K V : Option Addr} {nk ck nv cv : Nat} {ks vs : List Value}
theorem KvAt.start (w : World) : KvAt w w none 0 0 none 0 0 [] [] := ⟨World.ownsRow_nil _ _ _ _, World.ownsRow_nil _ _ _ _, fun q h => by simp [ob] at h, Keeps.refl _ _⟩
theorem KvAt.new (h : KvAt w0 W K nk ck V nv cv ks vs) (hk : Keeps (fun _ => False) W W') : KvAt w0 W' K nk ck V nv cv ks vs := ⟨own_keeps h.oK hk (fun _ _ h => h), own_keeps h.oV hk (fun _ _ h => h), h.far, h.kp.trans hk (fun _ _ h => h)⟩
theorem KvAt.stepK {K' : Option Addr} {ck' : Nat} {v : Value} (h : KvAt w0 W K nk ck V nv cv ks vs) (hg : W.grownBy W' (ob K)) (ho : W'.ownsRow w0.heap.size 9 1 (.slice K' (nk + 1) ck') (nk + 1) (ks ++ [v])) (hat : ob K' = ob K ∨ ob K' = some W.heap.size) : KvAt w0 W' K' (nk + 1) ck' V nv cv (ks ++ [v]) vs := by
  have Kp : Keeps (fun i => ob K = some i) W W' := (Keeps.refl _ W).grown hg (fun k hk => .inl hk)
  refine ⟨ho, own_keeps h.oV Kp (fun q hq e => ?_), fun q hq e => ?_, h.kp.grown hg (fun i hi => .inr (h.oK.lt i (by rw [ownBlock_slice]; exact hi)).1)⟩
  · rw [ownBlock_slice] at hq
    exact h.far q e hq
  · rcases hat with e2 | e2
    · exact h.far q (e2 ▸ hq) e
    · rw [e2] at hq
      injection hq with hq
      have := (h.oV.lt q (by rw [ownBlock_slice]; exact e)).2
      omega
theorem KvAt.stepV {V' : Option Addr} {cv' : Nat} {v : Value} (h : KvAt w0 W K nk ck V nv cv ks vs) (hg : W.grownBy W' (ob V)) (ho : W'.ownsRow w0.heap.size 9 1 (.slice V' (nv + 1) cv') (nv + 1) (vs ++ [v])) (hat : ob V' = ob V ∨ ob V' = some W.heap.size) : KvAt w0 W' K nk ck V' (nv + 1) cv' ks (vs ++ [v]) := by
  have Kp : Keeps (fun i => ob V = some i) W W' := (Keeps.refl _ W).grown hg (fun k hk => .inl hk)
  refine ⟨own_keeps h.oK Kp (fun q hq e => ?_), ho, fun q hq e => ?_, h.kp.grown hg (fun i hi => .inr (h.oV.lt i (by rw [ownBlock_slice]; exact hi)).1)⟩
  · rw [ownBlock_slice] at hq
    exact h.far q hq e
  · rcases hat with e2 | e2
    · exact h.far q hq (e2 ▸ e)
    · rw [e2] at e
      injection e with e
      have := (h.oK.lt q (by rw [ownBlock_slice]; exact hq)).2
      omega
end
theorem rdG {w w' : World} {row : Option Addr} {A : Option Addr} {size n : Nat} {xs : List Value} (hg : w.grownBy w' (ob row)) (h : Rd w size A n xs) (hr : ∀ z, ob A = some z → ob row ≠ some z) : Rd w' size A n xs :=
  h.keeps (S := fun i => ob row = some i) ((Keeps.refl _ w).grown hg (fun k hk => .inl hk)) (fun k hk => hr k hk)
def keysOf (L : List Pr) : List ByteArray := L.map Prod.fst
def valsOf (L : List Pr) : List ByteArray := L.map Prod.snd
theorem keys_step {L : List Pr} {k : Nat} {p : Pr} (h : L[k]? = some p) : (keysOf (L.take k)).map Value.string ++ [.string p.1] = (keysOf (L.take (k + 1))).map Value.string := by rw [List.take_add_one, h]; simp [keysOf]
theorem vals_step {L : List Pr} {k : Nat} {p : Pr} (h : L[k]? = some p) : (valsOf (L.take k)).map Value.string ++ [.string p.2] = (valsOf (L.take (k + 1))).map Value.string := by rw [List.take_add_one, h]; simp [valsOf]
def mapB (PP : List (List Pr)) : List UInt8 := offB (PP.map List.length) 0 ++ ((keysOf PP.flatten).map strB).flatten ++ ((valsOf PP.flatten).map strB).flatten

set_option maxRecDepth 100000 in
set_option maxHeartbeats 8000000 in
theorem arPairsSpec (w : World) (A : Option Addr) (n c : Nat) (PP : List (List Pr)) (hl : PP.length = n) (hR : RowsP w A PP) (hn : n ≤ 1000) (hf : PP.flatten.length ≤ 10000) (hx : ∀ p ∈ PP.flatten, p.1.size ≤ 1000 ∧ p.2.size ≤ 1000) (hb1 : ((keysOf PP.flatten).map strB).flatten.length ≤ 10000000) (hb2 : ((valsOf PP.flatten).map strB).flatten.length ≤ 10000000) :
    Calls Try.prog 17 #[.slice A n c] w fun e w' => OwnRes w 5 (Lib.byteCells (mapB PP)) (mapB PP).length e w' := by
  obtain ⟨i0, hi0, hz0, hz1, hz2⟩ := info_parts infoStrE
  have HR := Lib.hid hR
  have HFL := Lib.hid (arFlatP w A n c PP hl hR (by omega) (by omega))
  have HLE := Lib.hid (fun w1 (K : Keeps (fun _ => False) w w1) => arLensP w1 A n c PP hl (hR.keeps K) (by omega) (by omega))
  have HOF := Lib.hid (fun w1 B d (hz : Rd w1 1 B n ((PP.map List.length).map fun x : Nat => Value.int .i64 (x : Int))) => arOffsets w1 B n d (PP.map List.length) (by rw [List.length_map]; exact hl) hz (by omega) (by rw [← List.length_flatten]; omega))
  have HSK := Lib.hid (fun w1 B d (hz : Rd w1 1 B PP.flatten.length ((keysOf PP.flatten).map Value.string)) => stStrings w1 B PP.flatten.length d (keysOf PP.flatten) (by rw [keysOf, List.length_map]) hz (by omega) (fun x hm => by obtain ⟨p, hp, rfl⟩ := List.mem_map.1 hm; have := (hx p hp).1; omega) (by omega))
  have HSV := Lib.hid (fun w1 B d (hz : Rd w1 1 B PP.flatten.length ((valsOf PP.flatten).map Value.string)) => stStrings w1 B PP.flatten.length d (valsOf PP.flatten) (by rw [valsOf, List.length_map]) hz (by omega) (fun x hm => by obtain ⟨p, hp, rfl⟩ := List.mem_map.1 hm; have := (hx p hp).2; omega) (by omega))
  have HVL := Lib.hid (show (PP.map fun L => Value.int .i64 (L.length : Int)) = (PP.map List.length).map (fun x : Nat => Value.int .i64 (x : Int)) by rw [List.map_map]; rfl)
  have hol : (offB (PP.map List.length) 0).length = 8 * n := by rw [offB_length, List.length_map, hl]
  have HMB := Lib.hid (show mapB PP = offB (PP.map List.length) 0 ++ ((keysOf PP.flatten).map strB).flatten ++ ((valsOf PP.flatten).map strB).flatten from rfl)
  have HML := Lib.hid (show (mapB PP).length = (offB (PP.map List.length) 0).length + ((keysOf PP.flatten).map strB).flatten.length + ((valsOf PP.flatten).map strB).flatten.length by rw [mapB, List.length_append, List.length_append])
  rw [← hol] at HOF
  have hd1 : (offB (PP.map List.length) 0).length ≤ 8000 := by omega
  clear hl hR hn hx hol
  generalize hFLL : PP.flatten = FL at *
  clear hFLL
  generalize mapB PP = mb at *
  generalize offB (PP.map List.length) 0 = d1 at *
  generalize ((keysOf FL).map strB).flatten = d2 at *
  generalize ((valsOf FL).map strB).flatten = d3 at *
  generalize hm : FL.length = m at *
  generalize d1.length = n1 at *
  generalize d2.length = n2 at *
  generalize d3.length = n3 at *
  have HM := Lib.hid hm
  clear hm
  go_enter Try.func17, Try.ntmps17
  go_wp2_with fail
  refine HFL.out.mono ?_
  rintro e wf ⟨Af, cf, rfl, hoF, Kf⟩
  have HOF2 := Lib.hid hoF
  have HKf := Lib.hid Kf
  clear hoF Kf
  go_wp2_with fail
  go_loopw [4, 5, 6] (fun a b i wr => ∃ (k : Nat) (K : Option Addr) (ck : Nat) (V : Option Addr) (cv : Nat), k ≤ m ∧ i = .int .i64 k ∧ a = .slice K k ck ∧ b = .slice V k cv ∧ KvAt wf wr K k ck V k cv ((keysOf (FL.take k)).map Value.string) ((valsOf (FL.take k)).map Value.string)) (fun _ _ i _ => m - (RowKit.intOf i).toNat)
  case atStart => exact ⟨0, none, 0, none, 0, Nat.zero_le _, rfl, rfl, rfl, KvAt.start wf⟩
  case round =>
    obtain ⟨k, K, ck, V, cv, hk, rfl, rfl, rfl, h0⟩ := hrel
    by_cases hlt : k < m
    · have hoW := own_keeps HOF2.out h0.kp (fun _ _ h => h)
      obtain ⟨ad, ⟨x, y⟩, rfl, hb, hp, hc1, hc2⟩ := Rd.pair (Rd.own hoW) HM.out hlt
      dsimp only at hc1 hc2
      have hc3 : wr.cell? { block := (ad.add (k * 2)).block, off := (ad.add (k * 2)).off + 1 } = some (.string y) := by rw [← Addr.add_add] at hc2; exact hc2
      have nK : ob K ≠ some (ad.add (k * 2)).block := by have := own_apart hoW h0.oK (by decide); simp only [ownBlock_slice] at this; rw [blk_add]; exact this _ rfl
      have nV : ob V ≠ some (ad.add (k * 2)).block := by have := own_apart hoW h0.oV (by decide); simp only [ownBlock_slice] at this; rw [blk_add]; exact this _ rfl
      have lK : ∀ z, ob K = some z → z < wr.heap.size := fun z hz => (h0.oK.lt z (by rw [ownBlock_slice]; exact hz)).2
      have lV : ∀ z, ob V = some z → z < wr.heap.size := fun z hz => (h0.oV.lt z (by rw [ownBlock_slice]; exact hz)).2
      have HSTK := Lib.hid (keys_step hp)
      have HSTV := Lib.hid (vals_step hp)
      dsimp only at HSTK HSTV
      have k_a := (Keeps.refl (fun _ => False) wr).drew
      have k_ak := k_a.alloc (.cells #[.string x] 9)
      have k_av := k_a.alloc (.cells #[.string y] 9)
      have k_akv := k_ak.alloc (.cells #[.string y] 9)
      have k_avk := k_av.alloc (.cells #[.string x] 9)
      have s_a : (fun w' => w'.cell? (ad.add (k * 2)) = some (.string x) ∧ w'.cell? { block := (ad.add (k * 2)).block, off := (ad.add (k * 2)).off + 1 } = some (.string y)) wr.drew := ⟨hc1, hc3⟩
      have s_ak : (fun w' => w'.cell? (ad.add (k * 2)) = some (.string x) ∧ w'.cell? { block := (ad.add (k * 2)).block, off := (ad.add (k * 2)).off + 1 } = some (.string y)) (wr.drew.alloc (.cells #[.string x] 9)) := ⟨cellK ((Keeps.refl _ _).alloc _) s_a.1, cellK ((Keeps.refl _ _).alloc _) s_a.2⟩
      have s_av : (fun w' => w'.cell? (ad.add (k * 2)) = some (.string x) ∧ w'.cell? { block := (ad.add (k * 2)).block, off := (ad.add (k * 2)).off + 1 } = some (.string y)) (wr.drew.alloc (.cells #[.string y] 9)) := ⟨cellK ((Keeps.refl _ _).alloc _) s_a.1, cellK ((Keeps.refl _ _).alloc _) s_a.2⟩
      have s_akv : (fun w' => w'.cell? (ad.add (k * 2)) = some (.string x) ∧ w'.cell? { block := (ad.add (k * 2)).block, off := (ad.add (k * 2)).off + 1 } = some (.string y)) ((wr.drew.alloc (.cells #[.string x] 9)).alloc (.cells #[.string y] 9)) := ⟨cellK ((Keeps.refl _ _).alloc _) s_ak.1, cellK ((Keeps.refl _ _).alloc _) s_ak.2⟩
      have s_avk : (fun w' => w'.cell? (ad.add (k * 2)) = some (.string x) ∧ w'.cell? { block := (ad.add (k * 2)).block, off := (ad.add (k * 2)).off + 1 } = some (.string y)) ((wr.drew.alloc (.cells #[.string y] 9)).alloc (.cells #[.string x] 9)) := ⟨cellK ((Keeps.refl _ _).alloc _) s_av.1, cellK ((Keeps.refl _ _).alloc _) s_av.2⟩
      have zk : (World.heap (wr.drew.alloc (.cells #[.string x] 9))).size = wr.heap.size + 1 := by simp
      have zv : (World.heap (wr.drew.alloc (.cells #[.string y] 9))).size = wr.heap.size + 1 := by simp
      have ek1 : Rd (wr.drew.alloc (.cells #[.string x] 9)) 1 (some ⟨wr.heap.size, 0, none⟩) 1 [.string x] := rd_one wr.drew 9 (.string x)
      have ev2 : Rd (wr.drew.alloc (.cells #[.string y] 9)) 1 (some ⟨wr.heap.size, 0, none⟩) 1 [.string y] := rd_one wr.drew 9 (.string y)
      have ek3 : Rd ((wr.drew.alloc (.cells #[.string x] 9)).alloc (.cells #[.string y] 9)) 1 (some ⟨wr.heap.size, 0, none⟩) 1 [.string x] := ek1.keeps ((Keeps.refl (fun _ => False) _).alloc _) (fun _ _ h => h)
      have ev4 : Rd ((wr.drew.alloc (.cells #[.string y] 9)).alloc (.cells #[.string x] 9)) 1 (some ⟨wr.heap.size, 0, none⟩) 1 [.string y] := ev2.keeps ((Keeps.refl (fun _ => False) _).alloc _) (fun _ _ h => h)
      have ev3 : Rd ((wr.drew.alloc (.cells #[.string x] 9)).alloc (.cells #[.string y] 9)) 1 (some ⟨wr.heap.size + 1, 0, none⟩) 1 [.string y] := by have h := rd_one (wr.drew.alloc (.cells #[.string x] 9)) 9 (.string y); rw [zk] at h; exact h
      have ek4 : Rd ((wr.drew.alloc (.cells #[.string y] 9)).alloc (.cells #[.string x] 9)) 1 (some ⟨wr.heap.size + 1, 0, none⟩) 1 [.string x] := by have h := rd_one (wr.drew.alloc (.cells #[.string y] 9)) 9 (.string x); rw [zv] at h; exact h
      clear zk zv hp hc2 hoW
      go_wp2_with fail
      go_region_held3 (fun w' => w'.cell? (ad.add (k * 2)) = some (.string x) ∧ w'.cell? { block := (ad.add (k * 2)).block, off := (ad.add (k * 2)).off + 1 } = some (.string y)) (first | exact s_a | exact s_ak | exact s_av | exact s_akv | exact s_avk | exact s22 | exact s30 | exact s22a | exact s30a | exact s5) (first
        | (refine step_append_rd _ rfl (.tmp 23) (.tmp 29) _ rfl wf.heap.size 9 i0 _ 1 16 Try.underlying33 hi0 hz0 hz1 hz2 rfl Nat.one_pos V cv k _ rfl h22.oV (some ⟨wr.heap.size, 0, none⟩) 1 1 [.string y] rfl ev22 (one_val _ rfl) (by simp only [maxLen]; omega) (by omega) h22.kp.size ?_; intro V2 cv2 w5 oo hg hat; have h5 := h22.stepV hg oo hat; have s5 : (fun w' => w'.cell? (ad.add (k * 2)) = some (.string x) ∧ w'.cell? { block := (ad.add (k * 2)).block, off := (ad.add (k * 2)).off + 1 } = some (.string y)) w5 := ⟨cellG hg s22.1 nV, cellG hg s22.2 nV⟩)
        | (refine step_append_rd _ rfl (.tmp 23) (.tmp 29) _ rfl wf.heap.size 9 i0 _ 1 16 Try.underlying33 hi0 hz0 hz1 hz2 rfl Nat.one_pos V cv k _ rfl h22.oV (some ⟨wr.heap.size + 1, 0, none⟩) 1 1 [.string y] rfl ev22 (one_val _ rfl) (by simp only [maxLen]; omega) (by omega) h22.kp.size ?_; intro V2 cv2 w5 oo hg hat; have h5 := h22.stepV hg oo hat; have s5 : (fun w' => w'.cell? (ad.add (k * 2)) = some (.string x) ∧ w'.cell? { block := (ad.add (k * 2)).block, off := (ad.add (k * 2)).off + 1 } = some (.string y)) w5 := ⟨cellG hg s22.1 nV, cellG hg s22.2 nV⟩)
        | (refine step_append_rd _ rfl (.tmp 23) (.tmp 29) _ rfl wf.heap.size 9 i0 _ 1 16 Try.underlying33 hi0 hz0 hz1 hz2 rfl Nat.one_pos V cv k _ rfl (h22.new ((Keeps.refl (fun _ => False) w22).alloc (.cells #[.string y] 9))).oV (some ⟨w22.heap.size, 0, none⟩) 1 1 [.string y] rfl (rd_one w22 9 (.string y)) (one_val _ rfl) (by simp only [maxLen]; omega) (by omega) (h22.new ((Keeps.refl (fun _ => False) w22).alloc (.cells #[.string y] 9))).kp.size ?_; intro V2 cv2 w5 oo hg hat; have h5 := (h22.new ((Keeps.refl (fun _ => False) w22).alloc (.cells #[.string y] 9))).stepV hg oo hat; have s5 : (fun w' => w'.cell? (ad.add (k * 2)) = some (.string x) ∧ w'.cell? { block := (ad.add (k * 2)).block, off := (ad.add (k * 2)).off + 1 } = some (.string y)) w5 := ⟨cellG hg s22a.1 nV, cellG hg s22a.2 nV⟩)
        | (refine step_append_rd _ rfl (.tmp 15) (.tmp 21) _ rfl wf.heap.size 9 i0 _ 1 16 Try.underlying33 hi0 hz0 hz1 hz2 rfl Nat.one_pos K ck k _ rfl h30.oK (some ⟨wr.heap.size, 0, none⟩) 1 1 [.string x] rfl ek30 (one_val _ rfl) (by simp only [maxLen]; omega) (by omega) h30.kp.size ?_; intro K2 ck2 w5 oo hg hat; have h5 := h30.stepK hg oo hat; have s5 : (fun w' => w'.cell? (ad.add (k * 2)) = some (.string x) ∧ w'.cell? { block := (ad.add (k * 2)).block, off := (ad.add (k * 2)).off + 1 } = some (.string y)) w5 := ⟨cellG hg s30.1 nK, cellG hg s30.2 nK⟩)
        | (refine step_append_rd _ rfl (.tmp 15) (.tmp 21) _ rfl wf.heap.size 9 i0 _ 1 16 Try.underlying33 hi0 hz0 hz1 hz2 rfl Nat.one_pos K ck k _ rfl h30.oK (some ⟨wr.heap.size + 1, 0, none⟩) 1 1 [.string x] rfl ek30 (one_val _ rfl) (by simp only [maxLen]; omega) (by omega) h30.kp.size ?_; intro K2 ck2 w5 oo hg hat; have h5 := h30.stepK hg oo hat; have s5 : (fun w' => w'.cell? (ad.add (k * 2)) = some (.string x) ∧ w'.cell? { block := (ad.add (k * 2)).block, off := (ad.add (k * 2)).off + 1 } = some (.string y)) w5 := ⟨cellG hg s30.1 nK, cellG hg s30.2 nK⟩)
        | (refine step_append_rd _ rfl (.tmp 15) (.tmp 21) _ rfl wf.heap.size 9 i0 _ 1 16 Try.underlying33 hi0 hz0 hz1 hz2 rfl Nat.one_pos K ck k _ rfl (h30.new ((Keeps.refl (fun _ => False) w30).alloc (.cells #[.string x] 9))).oK (some ⟨w30.heap.size, 0, none⟩) 1 1 [.string x] rfl (rd_one w30 9 (.string x)) (one_val _ rfl) (by simp only [maxLen]; omega) (by omega) (h30.new ((Keeps.refl (fun _ => False) w30).alloc (.cells #[.string x] 9))).kp.size ?_; intro K2 ck2 w5 oo hg hat; have h5 := (h30.new ((Keeps.refl (fun _ => False) w30).alloc (.cells #[.string x] 9))).stepK hg oo hat; have s5 : (fun w' => w'.cell? (ad.add (k * 2)) = some (.string x) ∧ w'.cell? { block := (ad.add (k * 2)).block, off := (ad.add (k * 2)).off + 1 } = some (.string y)) w5 := ⟨cellG hg s30a.1 nK, cellG hg s30a.2 nK⟩)
        | (refine step_append_rd _ rfl (.tmp 15) (.tmp 21) _ rfl wf.heap.size 9 i0 _ 1 16 Try.underlying33 hi0 hz0 hz1 hz2 rfl Nat.one_pos K ck k _ rfl (h0.new k_akv).oK (some ⟨wr.heap.size, 0, none⟩) 1 1 [.string x] rfl ek3 (one_val _ rfl) (by simp only [maxLen]; omega) (by omega) (h0.new k_akv).kp.size ?_; intro K2 ck2 w22 oo hg hat; have h22 := (h0.new k_akv).stepK hg oo hat; have s22 : (fun w' => w'.cell? (ad.add (k * 2)) = some (.string x) ∧ w'.cell? { block := (ad.add (k * 2)).block, off := (ad.add (k * 2)).off + 1 } = some (.string y)) w22 := ⟨cellG hg s_akv.1 nK, cellG hg s_akv.2 nK⟩; have ev22 := rdG hg ev3 (by have := lK; intro z hz hz2; have := this z hz2; simp [ob] at hz; omega))
        | (refine step_append_rd _ rfl (.tmp 15) (.tmp 21) _ rfl wf.heap.size 9 i0 _ 1 16 Try.underlying33 hi0 hz0 hz1 hz2 rfl Nat.one_pos K ck k _ rfl (h0.new k_avk).oK (some ⟨wr.heap.size + 1, 0, none⟩) 1 1 [.string x] rfl ek4 (one_val _ rfl) (by simp only [maxLen]; omega) (by omega) (h0.new k_avk).kp.size ?_; intro K2 ck2 w22 oo hg hat; have h22 := (h0.new k_avk).stepK hg oo hat; have s22 : (fun w' => w'.cell? (ad.add (k * 2)) = some (.string x) ∧ w'.cell? { block := (ad.add (k * 2)).block, off := (ad.add (k * 2)).off + 1 } = some (.string y)) w22 := ⟨cellG hg s_avk.1 nK, cellG hg s_avk.2 nK⟩; have ev22 := rdG hg ev4 (by have := lK; intro z hz hz2; have := this z hz2; simp [ob] at hz; omega))
        | (refine step_append_rd _ rfl (.tmp 15) (.tmp 21) _ rfl wf.heap.size 9 i0 _ 1 16 Try.underlying33 hi0 hz0 hz1 hz2 rfl Nat.one_pos K ck k _ rfl (h0.new k_ak).oK (some ⟨wr.heap.size, 0, none⟩) 1 1 [.string x] rfl ek1 (one_val _ rfl) (by simp only [maxLen]; omega) (by omega) (h0.new k_ak).kp.size ?_; intro K2 ck2 w22 oo hg hat; have h22 := (h0.new k_ak).stepK hg oo hat; have s22 : (fun w' => w'.cell? (ad.add (k * 2)) = some (.string x) ∧ w'.cell? { block := (ad.add (k * 2)).block, off := (ad.add (k * 2)).off + 1 } = some (.string y)) w22 := ⟨cellG hg s_ak.1 nK, cellG hg s_ak.2 nK⟩; have s22a : (fun w' => w'.cell? (ad.add (k * 2)) = some (.string x) ∧ w'.cell? { block := (ad.add (k * 2)).block, off := (ad.add (k * 2)).off + 1 } = some (.string y)) (w22.alloc (.cells #[.string y] 9)) := ⟨cellK ((Keeps.refl _ _).alloc _) s22.1, cellK ((Keeps.refl _ _).alloc _) s22.2⟩)
        | (refine step_append_rd _ rfl (.tmp 23) (.tmp 29) _ rfl wf.heap.size 9 i0 _ 1 16 Try.underlying33 hi0 hz0 hz1 hz2 rfl Nat.one_pos V cv k _ rfl (h0.new k_akv).oV (some ⟨wr.heap.size + 1, 0, none⟩) 1 1 [.string y] rfl ev3 (one_val _ rfl) (by simp only [maxLen]; omega) (by omega) (h0.new k_akv).kp.size ?_; intro V2 cv2 w30 oo hg hat; have h30 := (h0.new k_akv).stepV hg oo hat; have s30 : (fun w' => w'.cell? (ad.add (k * 2)) = some (.string x) ∧ w'.cell? { block := (ad.add (k * 2)).block, off := (ad.add (k * 2)).off + 1 } = some (.string y)) w30 := ⟨cellG hg s_akv.1 nV, cellG hg s_akv.2 nV⟩; have ek30 := rdG hg ek3 (by have := lV; intro z hz hz2; have := this z hz2; simp [ob] at hz; omega))
        | (refine step_append_rd _ rfl (.tmp 23) (.tmp 29) _ rfl wf.heap.size 9 i0 _ 1 16 Try.underlying33 hi0 hz0 hz1 hz2 rfl Nat.one_pos V cv k _ rfl (h0.new k_avk).oV (some ⟨wr.heap.size, 0, none⟩) 1 1 [.string y] rfl ev4 (one_val _ rfl) (by simp only [maxLen]; omega) (by omega) (h0.new k_avk).kp.size ?_; intro V2 cv2 w30 oo hg hat; have h30 := (h0.new k_avk).stepV hg oo hat; have s30 : (fun w' => w'.cell? (ad.add (k * 2)) = some (.string x) ∧ w'.cell? { block := (ad.add (k * 2)).block, off := (ad.add (k * 2)).off + 1 } = some (.string y)) w30 := ⟨cellG hg s_avk.1 nV, cellG hg s_avk.2 nV⟩; have ek30 := rdG hg ek4 (by have := lV; intro z hz hz2; have := this z hz2; simp [ob] at hz; omega))
        | (refine step_append_rd _ rfl (.tmp 23) (.tmp 29) _ rfl wf.heap.size 9 i0 _ 1 16 Try.underlying33 hi0 hz0 hz1 hz2 rfl Nat.one_pos V cv k _ rfl (h0.new k_av).oV (some ⟨wr.heap.size, 0, none⟩) 1 1 [.string y] rfl ev2 (one_val _ rfl) (by simp only [maxLen]; omega) (by omega) (h0.new k_av).kp.size ?_; intro V2 cv2 w30 oo hg hat; have h30 := (h0.new k_av).stepV hg oo hat; have s30 : (fun w' => w'.cell? (ad.add (k * 2)) = some (.string x) ∧ w'.cell? { block := (ad.add (k * 2)).block, off := (ad.add (k * 2)).off + 1 } = some (.string y)) w30 := ⟨cellG hg s_av.1 nV, cellG hg s_av.2 nV⟩; have s30a : (fun w' => w'.cell? (ad.add (k * 2)) = some (.string x) ∧ w'.cell? { block := (ad.add (k * 2)).block, off := (ad.add (k * 2)).off + 1 } = some (.string y)) (w30.alloc (.cells #[.string x] 9)) := ⟨cellK ((Keeps.refl _ _).alloc _) s30.1, cellK ((Keeps.refl _ _).alloc _) s30.2⟩))
      all_goals
        rw [HSTK.out, HSTV.out] at h5
        have H5 := Lib.hid h5
        clear h5 s5 s_a s_ak s_av s_akv s_avk ek1 ek3 ek4 ev2 ev3 ev4 k_a k_ak k_av k_akv k_avk
        go_wp2_with fail
        go_roundw
        case rel => exact ⟨k + 1, K2, ck2, V2, cv2, by omega, by go_num, rfl, rfl, H5.out⟩
        case measure => (first | (simp [RowKit.intOf]; done) | (simp [RowKit.intOf]; omega))
    · have hkn : k = m := by omega
      subst hkn
      rw [List.take_of_length_le (by rw [HM.out]; exact Nat.le_refl _)] at h0
      have H0 := Lib.hid h0
      clear h0
      go_wp2_with fail
      refine (HLE.out wr (HKf.out.trans H0.out.kp (fun _ _ h => h))).mono ?_
      rintro e w3 ⟨A3, c3, rfl, o3, K3, _⟩
      rw [HVL.out] at o3
      have HO3 := Lib.hid (Rd.own o3)
      have HK3 := Lib.hid K3
      clear o3 K3
      go_wp2_with fail
      refine (HOF.out w3 A3 c3 HO3.out).mono ?_
      rintro e w4 ⟨A4, c4, rfl, o4, K4, _⟩
      have HO4 := Lib.hid (Rd.own o4)
      have HK4 := Lib.hid (HK3.out.trans K4 (fun _ _ h => h))
      clear o4 K4
      go_wp2_with fail
      refine (HSK.out w4 K ck ((Rd.own H0.out.oK).keeps HK4.out (fun _ _ h => h))).mono ?_
      rintro e w5 ⟨A5, c5, rfl, o5, K5, _⟩
      have HO5 := Lib.hid (Rd.own o5)
      have HO45 := Lib.hid (HO4.out.keeps K5 (fun _ _ h => h))
      have HK5 := Lib.hid (HK4.out.trans K5 (fun _ _ h => h))
      clear o5 K5
      go_wp2_with fail
      refine (HSV.out w5 V cv ((Rd.own H0.out.oV).keeps HK5.out (fun _ _ h => h))).mono ?_
      rintro e w6 ⟨A6, c6, rfl, o6, K6, _⟩
      have K7 := K6.alloc (.cells #[.slice A4 n1 c4, .slice A5 n2 c5, .slice A6 n3 c6] 25)
      have K67 := (Keeps.refl (fun _ => False) w6).alloc (.cells #[.slice A4 n1 c4, .slice A5 n2 c5, .slice A6 n3 c6] 25)
      have HJ := Lib.hid (stJoinThree _ w6.heap.size 25 A4 A5 A6 n1 c4 n2 c5 n3 c6 d1 d2 d3 (Whole.new w6 25 #[.slice A4 n1 c4, .slice A5 n2 c5, .slice A6 n3 c6]) (HO45.out.keeps K7 (fun _ _ h => h)) (HO5.out.keeps K7 (fun _ _ h => h)) ((Rd.own o6).keeps K67 (fun _ _ h => h)) (by omega))
      have HK7 := Lib.hid (((HKf.out.trans H0.out.kp (fun _ _ h => h)).trans HK5.out (fun _ _ h => h)).trans K7 (fun _ _ h => h))
      clear o6 K6 K7 K67
      go_wp2_with fail
      refine HJ.out.mono ?_
      rintro e w8 ⟨A8, c8, rfl, o8, K8, _⟩
      rw [← HMB.out] at o8
      have HO8 := Lib.hid (own_base_le o8 HK7.out.size)
      have HK8 := Lib.hid (HK7.out.trans K8 (fun _ _ h => h))
      clear o8 K8
      go_wp2_with fail
      go_ret
      rw [HML.out]
      exact OwnRes.mk HO8.out HK8.out
end Go.Proofs.Ytkgjchfbbpabpaa
