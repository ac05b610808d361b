/- The walk of the law on tuples: a tuple is its columns, one behind the other, and it is read as it was. Conditions: lengths that an argument can have. -/
import Derived.Test.YtpcjifhklofofaaLx
import Derived.Test.YtpcjifhklofofaaSh
import Derived.Test.YtpcjifhklofofaaTx2
import Derived.Deep.CutRange
import Derived.Deep.LoopGhost
import Derived.Deep.RegionHeld3
namespace Go.Proofs.Ytpcjifhklofofaa
open Go.RowKit Go.Lib
set_option linter.unusedVariables false
def TuA (w wc : World) (pa : List ByteArray) (pb : List Nat) (s10 s11 : Value) : Prop := ∃ A1 a1 B1 b1, s10 = .slice A1 pa.length a1 ∧ s11 = .slice B1 pb.length b1 ∧ wc.ownsRow w.heap.size 9 1 (.slice A1 pa.length a1) pa.length (pa.map Value.string) ∧ wc.ownsRow w.heap.size 30 1 (.slice B1 pb.length b1) pb.length (nv pb) ∧ Keeps (fun _ => False) w wc
def TuL (w wr : World) (m k : Nat) (a' : List ByteArray) (b' : List Nat) (s10 s11 : Value) : Prop := ∃ A1 a1 B1 b1 nb, a'.length = k ∧ k ≤ m ∧ (∀ x ∈ a', x.size ≤ 60) ∧ b'.length = nb ∧ nb ≤ m ∧ (∀ x ∈ b', x < 4294967296) ∧ s10 = .slice A1 k a1 ∧ s11 = .slice B1 nb b1 ∧ wr.ownsRow w.heap.size 9 1 (.slice A1 k a1) k (a'.map Value.string) ∧ wr.ownsRow w.heap.size 30 1 (.slice B1 nb b1) nb (nv b') ∧ Keeps (fun _ => False) w wr
theorem tup_spec (a : List ByteArray) (b : List Nat) (X : List (List ByteArray)) : (a.map strB).flatten ++ u32s b ++ offB (X.map List.length) 0 ++ (X.flatten.map strB).flatten = tupB a b X := by rw [tupB, arrB_spec, enc_str, List.append_assoc, List.append_assoc]
theorem sv_sl (a : List ByteArray) : (a.map sl).map sv = a.map Value.string := by rw [List.map_map]; exact List.map_congr_left fun s _ => congrArg Value.string (slBack s)
set_option maxRecDepth 100000 in
set_option maxHeartbeats 8000000 in
theorem arTupleWalk (w : World) (A : Option Addr) (n c : Nat) (xs : List ByteArray) (B : Option Addr) (nb cb : Nat) (ys : List Nat) (E : Option Addr) (nl cl : Nat) (LL : List (List ByteArray)) (T : Option Addr) (nt ct : Nat) (t : List UInt8)
    (hx : xs.length = n) (hRx : Rd w 1 A n (xs.map Value.string)) (hn : n ≤ 9223372036854775807) (hy : ys.length = nb) (hRy : Rd w 1 B nb (nv ys)) (hyc : nb ≤ cb) (hcb : cb ≤ 9223372036854775807) (hy32 : ∀ x ∈ ys, x < 4294967296)
    (hl : LL.length = nl) (hRl : RowsOf w E LL) (hnl : nl ≤ 9223372036854775807) (hi : ∀ X ∈ LL, X.length ≤ 9223372036854775807) (ht : t.length = nt) (hRt : Rd w 1 T nt (Lib.byteCells t)) (htc : nt ≤ ct) (htn : nt ≤ 9223372036854775807) :
    Calls Try.prog 3 #[.slice A n c, .slice B nb cb, .slice E nl cl, .slice T nt ct] w fun e w' => e = .returned (.bool true) ∧ Below w.heap.size w w' := by
  obtain ⟨i0, hi0, hz0, hz1, hz2⟩ := info_parts infoStrE
  obtain ⟨j0, hj0, hj1, hj2, hj3⟩ := info_parts infoN
  have HF2 := Lib.hid (fits2 w A n c xs hx hRx hn)
  have HF1 := Lib.hid (fits1 w E nl cl LL hl hRl hi hnl)
  have HLI := Lib.hid (arLists w E nl cl LL hl hRl hnl hi)
  have HTL := Lib.hid (fun w' => stTail w' T nt ct htc htn)
  have hlen := lists_len LL
  have hpos := lists_pos LL
  have hsm := lists_small LL
  have hin := lists_in LL
  have hRt40 : Rd w 1 T (min nt 40) (Lib.byteCells (t.take 40)) := by
    have h := hRt.first' (k := min nt 40) (by omega)
    rwa [show (Lib.byteCells t).take (min nt 40) = Lib.byteCells (t.take 40) by
      rw [Lib.byteCells, ← List.map_take, Lib.byteCells]
      congr 1
      rw [← ht, List.take_eq_take_iff]
      omega] at h
  have htl : (t.take 40).length = min nt 40 := by rw [List.length_take, ht]; omega
  have hm40 : min nt 40 ≤ 40 := by omega
  generalize t.take 40 = d at *
  generalize min nt 40 = m2 at *
  have HAW := Lib.hid (fun (W : World) (K : Keeps (fun _ => False) w W) (m : Nat) (hm : m ≤ 1000) => arWords W A n c m xs hx (hRx.keeps K (fun _ _ h => h)) hn hm)
  have HRY := Lib.hid (fun (r : Nat) (hr : r ≤ nb) => show Rd w 1 B r (nv (ys.take r)) by have h := hRy.first' hr; rwa [show (nv ys).take r = nv (ys.take r) by simp [nv, List.map_take]] at h)
  have HYL := Lib.hid hy
  have HY32 := Lib.hid hy32
  have HRT := Lib.hid hRt40
  have HTD := Lib.hid htl
  clear hx hRx hy hRy hy32 hl hRl hi hnl ht hRt hRt40 htl
  generalize listsOf LL = X at *
  generalize hmX : X.length = m at *
  obtain ⟨hp0, hp1⟩ := hpos
  have HMX := Lib.hid hmX
  have HIN := Lib.hid hin
  have HSM := Lib.hid hsm
  clear hmX hin hsm
  go_enter Try.func3, Try.ntmps3
  go_wp2_with fail
  refine HF2.out.mono ?_
  rintro e w1 ⟨⟨b, rfl⟩, rfl⟩
  cases b with
  | false =>
    go_wp2_with fail
    go_ret
    exact ⟨rfl, Below.refl _ _⟩
  | true =>
  by_cases hb1 : 2147483647 < nb
  · have hb2 : (2147483647 : Int) < (nb : Int) := by omega
    go_wp2_with fail
    go_ret
    exact ⟨rfl, Below.refl _ _⟩
  have hb2 : ¬ (2147483647 : Int) < (nb : Int) := by omega
  go_wp2_with fail
  refine HF1.out.mono ?_
  rintro e w1 ⟨⟨b, rfl⟩, rfl⟩
  cases b with
  | false =>
    go_wp2_with fail
    go_ret
    exact ⟨rfl, Below.refl _ _⟩
  | true =>
  by_cases hb3 : 2147483647 < nt
  · have hb4 : (2147483647 : Int) < (nt : Int) := by omega
    go_wp2_with fail
    go_ret
    exact ⟨rfl, Below.refl _ _⟩
  have hb4 : ¬ (2147483647 : Int) < (nt : Int) := by omega
  go_wp2_with fail
  refine HLI.out.mono ?_
  rintro e w2 ⟨A2, c2, rfl, hX2, K2⟩
  have RX := Lib.hid hX2
  have HK := Lib.hid K2
  clear hX2 K2 hb1 hb2 hb3 hb4
  go_wp2_with fail
  obtain ⟨r, hr⟩ : ∃ r, min nb m = r := ⟨_, rfl⟩
  go_cut [10, 11] from 41 to 53 (fun s10 s11 wc => TuA w2 wc (wordsOf m xs) (ys.take r) s10 s11)
  case first =>
    have HAW2 := Lib.hid (fun (W : World) (K : Keeps (fun _ => False) w2 W) => HAW.out W (HK.out.trans K (fun _ _ h => h)) m (by omega))
    have hw0 := HK.out.size
    have hr1 : r ≤ nb := by omega
    have hr2 : r ≤ m := by omega
    by_cases hle : m < nb
    · obtain rfl : m = r := by omega
      have hle3 : (m : Int) < (nb : Int) := by omega
      clear hr
      have HYR := Lib.hid (HRY.out m (by omega))
      have HLR := Lib.hid (show (ys.take m).length = m by rw [List.length_take, HYL.out]; omega)
      have cb1 : (m : Int) ≤ (cb : Int) := by omega
      go_region_held3 (fun w' => True) (exact trivial) (first
        | (refine step_append_rd _ (by rfl) (.tmp 45) (.tmp 52) _ (by rfl) w2.heap.size 30 j0 _ 1 4 Try.underlying23 hj0 hj1 hj2 hj3 rfl Nat.one_pos (some ⟨wa.heap.size, 0, none⟩) 0 0 [] (by rfl) (own_zero wa 30 (by have := ka.size; omega)) B m cb (nv (ys.take m)) (by rfl) (HYR.out.keeps (HK.out.trans (ka.trans ((Keeps.refl (fun _ => False) wa).alloc (.cells #[] 30)) (fun _ _ h => h)) (fun _ _ h => h)) (fun _ _ h => h)) (nv_one _) (by simp only [maxLen]; omega) (by omega) (by have := ka.size; simp; omega) ?_
           intro U u we oU hgU hatU
           have hao := own_keeps oA ((Keeps.refl (fun _ => False) wa).alloc (.cells #[] 30)) (fun _ _ h => h)
           have hzz := own_zero wa 30 (base := w2.heap.size) (by have := ka.size; omega)
           have kz := (ka.trans ((Keeps.refl (fun _ => False) wa).alloc (.cells #[] 30)) (fun _ _ h => h)))
        | (refine step_append_rd _ (by rfl) (.tmp 45) (.tmp 52) _ (by rfl) w2.heap.size 30 j0 _ 1 4 Try.underlying23 hj0 hj1 hj2 hj3 rfl Nat.one_pos (some ⟨w2.heap.size, 0, none⟩) 0 0 [] (by rfl) (own_keeps (own_zero w2 30 (base := w2.heap.size) (Nat.le_refl _)).drew kb (fun _ _ h => h)) B m cb (nv (ys.take m)) (by rfl) (HYR.out.keeps (HK.out.trans ((((Keeps.refl (fun _ => False) w2).alloc (.cells #[] 30)).drew).trans kb (fun _ _ h => h)) (fun _ _ h => h)) (fun _ _ h => h)) (nv_one _) (by simp only [maxLen]; omega) (by omega) (by have h2 := kb.size; simp at h2; omega) ?_
           intro U u we oU hgU hatU
           have hao := oA
           have hzz := own_keeps (own_zero w2 30 (base := w2.heap.size) (Nat.le_refl _)).drew kb (fun _ _ h => h)
           have kz := ((((Keeps.refl (fun _ => False) w2).alloc (.cells #[] 30)).drew).trans kb (fun _ _ h => h)))
        | (go_at_call 7
           refine (HAW2.out (w2.alloc (.cells #[] 30)).drew (((Keeps.refl (fun _ => False) w2).alloc (.cells #[] 30)).drew)).mono ?_
           rintro e wb ⟨A1, a1, rfl, oA, kb, _⟩)
        | (go_at_call 7
           refine (HAW2.out w2.drew (Keeps.refl (fun _ => False) w2).drew).mono ?_
           rintro e wa ⟨A1, a1, rfl, oA, ka0, _⟩
           have ka := (Keeps.refl (fun _ => False) w2).drew.trans ka0 (fun _ _ h => h)))
      all_goals
        go_wp2_with fail
        go_meet
        case rel =>
          rw [Nat.zero_add, List.nil_append] at oU
          have KU : Keeps (fun i => ob (some (⟨_, 0, none⟩ : Addr)) = some i) _ we := (Keeps.refl _ _).grown hgU (fun k hk => .inl hk)
          have hap := own_apart hao hzz (by decide)
          refine ⟨A1, a1, U, u, rfl, by rw [HLR.out], ?_, by rw [HLR.out]; exact oU, ?_⟩
          · exact own_keeps (own_base_le hao (by have := HK.out.size; simp; try omega)) KU (fun k hk e => hap k hk (by simpa [ob, Value.ownBlock] using e))
          · exact kz.grown hgU (fun k hk => .inr (hzz.lt k (by rw [ownBlock_slice]; exact hk)).1)
    · obtain rfl : nb = r := by omega
      have hle3 : ¬ (m : Int) < (nb : Int) := by omega
      clear hr
      have HYR := Lib.hid (HRY.out nb (by omega))
      have HLR := Lib.hid (show (ys.take nb).length = nb by rw [List.length_take, HYL.out]; omega)
      have cb1 : (nb : Int) ≤ (cb : Int) := by omega
      go_region_held3 (fun w' => True) (exact trivial) (first
        | (refine step_append_rd _ (by rfl) (.tmp 45) (.tmp 52) _ (by rfl) w2.heap.size 30 j0 _ 1 4 Try.underlying23 hj0 hj1 hj2 hj3 rfl Nat.one_pos (some ⟨wa.heap.size, 0, none⟩) 0 0 [] (by rfl) (own_zero wa 30 (by have := ka.size; omega)) B nb cb (nv (ys.take nb)) (by rfl) (HYR.out.keeps (HK.out.trans (ka.trans ((Keeps.refl (fun _ => False) wa).alloc (.cells #[] 30)) (fun _ _ h => h)) (fun _ _ h => h)) (fun _ _ h => h)) (nv_one _) (by simp only [maxLen]; omega) (by omega) (by have := ka.size; simp; omega) ?_
           intro U u we oU hgU hatU
           have hao := own_keeps oA ((Keeps.refl (fun _ => False) wa).alloc (.cells #[] 30)) (fun _ _ h => h)
           have hzz := own_zero wa 30 (base := w2.heap.size) (by have := ka.size; omega)
           have kz := (ka.trans ((Keeps.refl (fun _ => False) wa).alloc (.cells #[] 30)) (fun _ _ h => h)))
        | (refine step_append_rd _ (by rfl) (.tmp 45) (.tmp 52) _ (by rfl) w2.heap.size 30 j0 _ 1 4 Try.underlying23 hj0 hj1 hj2 hj3 rfl Nat.one_pos (some ⟨w2.heap.size, 0, none⟩) 0 0 [] (by rfl) (own_keeps (own_zero w2 30 (base := w2.heap.size) (Nat.le_refl _)).drew kb (fun _ _ h => h)) B nb cb (nv (ys.take nb)) (by rfl) (HYR.out.keeps (HK.out.trans ((((Keeps.refl (fun _ => False) w2).alloc (.cells #[] 30)).drew).trans kb (fun _ _ h => h)) (fun _ _ h => h)) (fun _ _ h => h)) (nv_one _) (by simp only [maxLen]; omega) (by omega) (by have h2 := kb.size; simp at h2; omega) ?_
           intro U u we oU hgU hatU
           have hao := oA
           have hzz := own_keeps (own_zero w2 30 (base := w2.heap.size) (Nat.le_refl _)).drew kb (fun _ _ h => h)
           have kz := ((((Keeps.refl (fun _ => False) w2).alloc (.cells #[] 30)).drew).trans kb (fun _ _ h => h)))
        | (go_at_call 7
           refine (HAW2.out (w2.alloc (.cells #[] 30)).drew (((Keeps.refl (fun _ => False) w2).alloc (.cells #[] 30)).drew)).mono ?_
           rintro e wb ⟨A1, a1, rfl, oA, kb, _⟩)
        | (go_at_call 7
           refine (HAW2.out w2.drew (Keeps.refl (fun _ => False) w2).drew).mono ?_
           rintro e wa ⟨A1, a1, rfl, oA, ka0, _⟩
           have ka := (Keeps.refl (fun _ => False) w2).drew.trans ka0 (fun _ _ h => h)))
      all_goals
        go_wp2_with fail
        go_meet
        case rel =>
          rw [Nat.zero_add, List.nil_append] at oU
          have KU : Keeps (fun i => ob (some (⟨_, 0, none⟩ : Addr)) = some i) _ we := (Keeps.refl _ _).grown hgU (fun k hk => .inl hk)
          have hap := own_apart hao hzz (by decide)
          refine ⟨A1, a1, U, u, rfl, by rw [HLR.out], ?_, by rw [HLR.out]; exact oU, ?_⟩
          · exact own_keeps (own_base_le hao (by have := HK.out.size; simp; try omega)) KU (fun k hk e => hap k hk (by simpa [ob, Value.ownBlock] using e))
          · exact kz.grown hgU (fun k hk => .inr (hzz.lt k (by rw [ownBlock_slice]; exact hk)).1)
  case rest =>
    obtain ⟨A1, a1, B1, b1, rfl, rfl, oA, oB, kw⟩ := hcut
    have hwl := wordsOf_length m xs
    have hyl : (ys.take r).length ≤ m := by rw [List.length_take]; omega
    have hw60 := words_small m xs
    have hy32 : ∀ x ∈ ys.take r, x < 4294967296 := fun x hx => HY32.out x (List.mem_of_mem_take hx)
    have hwlm : (wordsOf m xs).length ≤ m := by rw [hwl]; omega
    have HY2 := Lib.hid hy32
    have HKC := Lib.hid kw
    clear hy32 hwl hr kw
    generalize wordsOf m xs = p0 at *
    generalize ys.take r = q0 at *
    generalize hpl : p0.length = pl at *
    generalize hql : q0.length = ql at *
    have HPL := Lib.hid hpl
    have HQL := Lib.hid hql
    clear hpl hql
    go_wp2_with fail
    go_loopg [10] (m - pl) (fun gk s wr => ∃ (k : Nat) (a' : List ByteArray) (A1 : Option Addr) (a1 : Nat), k ≤ m ∧ gk = m - k ∧ a'.length = k ∧ (∀ x ∈ a', x.size ≤ 60) ∧ s = .slice A1 k a1 ∧ wr.ownsRow w2.heap.size 9 1 (.slice A1 k a1) k (a'.map Value.string) ∧ wr.ownsRow w2.heap.size 30 1 (.slice B1 ql b1) ql (nv q0) ∧ Keeps (fun _ => False) w2 wr)
    case atStart => exact ⟨pl, p0, A1, a1, hwlm, rfl, HPL.out, hw60, rfl, oA, oB, HKC.out⟩
    case round =>
      clear oA oB
      obtain ⟨k, a', A1, a1, hk, hgk, ha', ha60, rfl, oA, oB, hK⟩ := hrel
      by_cases hlt : k < m
      · have KA := (Keeps.refl (fun _ => False) wr).alloc (.cells #[.string ⟨#[97]⟩] 9)
        have oAa := own_keeps oA KA (fun _ _ h => h)
        have oBa := own_keeps oB KA (fun _ _ h => h)
        have hKa := hK.trans KA (fun _ _ h => h)
        have hap : ∀ q, ob B1 = some q → ob A1 ≠ some q := by have := own_apart oBa oAa (by decide); simpa only [ownBlock_slice] using this
        have HA60 := Lib.hid ha60
        have HAL := Lib.hid ha'
        clear ha60 ha'
        go_wp2_with (at_builtin
                     refine wpList_append_rd _ rfl (.tmp 59) (.tmp 60) _ rfl w2.heap.size 9 i0 _ 1 16 Try.underlying22 hi0 hz0 hz1 hz2 rfl Nat.one_pos A1 a1 k _ rfl oAa (some ⟨wr.heap.size, 0, none⟩) 1 1 [.string ⟨#[97]⟩] rfl (rd_one wr 9 _) (one_val _ rfl) (by simp only [maxLen]; omega) (by omega) hKa.size ?_
                     intro A3 a3 w3 o3 hg3 hat3)
        have K3 : Keeps (fun i => ob A1 = some i) _ w3 := (Keeps.refl _ _).grown hg3 (fun i hi => .inl hi)
        go_roundg (m - (k + 1))
        case measure => omega
        case rel => exact ⟨k + 1, a' ++ [⟨#[97]⟩], A3, a3, by omega, rfl, by rw [List.length_append, HAL.out]; rfl, (fun x hx => by rcases List.mem_append.1 hx with h | h; exact HA60.out x h; rw [List.mem_singleton.1 h]; decide), rfl, by rw [List.map_append]; exact o3, own_keeps oBa K3 (fun q hq => by rw [ownBlock_slice] at hq; exact hap q hq), hKa.grown hg3 (fun q hq => .inr (oAa.lt q (by rw [ownBlock_slice]; exact hq)).1)⟩
      · obtain rfl : m = k := by omega
        have HAL := Lib.hid ha'
        have HA60 := Lib.hid ha60
        have HOA2 := Lib.hid oA
        have HOB2 := Lib.hid oB
        have HK2 := Lib.hid hK
        clear ha' ha60 oA oB hK
        go_wp2_with fail
        go_loopg [11] (m - ql) (fun gk s wr => ∃ (k : Nat) (b' : List Nat) (B1 : Option Addr) (b1 : Nat), k ≤ m ∧ gk = m - k ∧ b'.length = k ∧ (∀ x ∈ b', x < 4294967296) ∧ s = .slice B1 k b1 ∧ wr.ownsRow w2.heap.size 30 1 (.slice B1 k b1) k (nv b') ∧ wr.ownsRow w2.heap.size 9 1 (.slice A1 m a1) m (a'.map Value.string) ∧ Keeps (fun _ => False) w2 wr)
        case atStart => exact ⟨ql, q0, B1, b1, hyl, rfl, HQL.out, HY2.out, rfl, HOB2.out, HOA2.out, HK2.out⟩
        case round =>
          obtain ⟨k, b', B1, b1, hk, hgk, hb', hb32, rfl, oB, oA, hK⟩ := hrel
          by_cases hlt : k < m
          · have KA := (Keeps.refl (fun _ => False) wr).alloc (.cells #[.int .u32 5] 30)
            have oAa := own_keeps oA KA (fun _ _ h => h)
            have oBa := own_keeps oB KA (fun _ _ h => h)
            have hKa := hK.trans KA (fun _ _ h => h)
            have hap : ∀ q, ob A1 = some q → ob B1 ≠ some q := by have := own_apart oAa oBa (by decide); simpa only [ownBlock_slice] using this
            have HB32 := Lib.hid hb32
            have HBL := Lib.hid hb'
            clear hb32 hb'
            go_wp2_with (at_builtin
                         refine wpList_append_rd _ rfl (.tmp 67) (.tmp 68) _ rfl w2.heap.size 30 j0 _ 1 4 Try.underlying23 hj0 hj1 hj2 hj3 rfl Nat.one_pos B1 b1 k _ rfl oBa (some ⟨wr.heap.size, 0, none⟩) 1 1 [.int .u32 5] rfl (rd_one wr 30 _) (one_val _ rfl) (by simp only [maxLen]; omega) (by omega) hKa.size ?_
                         intro B3 b3 w3 o3 hg3 hat3)
            have K3 : Keeps (fun i => ob B1 = some i) _ w3 := (Keeps.refl _ _).grown hg3 (fun i hi => .inl hi)
            go_roundg (m - (k + 1))
            case measure => omega
            case rel => exact ⟨k + 1, b' ++ [5], B3, b3, by omega, rfl, by rw [List.length_append, HBL.out]; rfl, (fun x hx => by rcases List.mem_append.1 hx with h | h; exact HB32.out x h; rw [List.mem_singleton.1 h]; decide), rfl, by rw [nv_app]; exact o3, own_keeps oAa K3 (fun q hq => by rw [ownBlock_slice] at hq; exact hap q hq), hKa.grown hg3 (fun q hq => .inr (oBa.lt q (by rw [ownBlock_slice]; exact hq)).1)⟩
          · obtain rfl : m = k := by omega
            have RA := Lib.hid (Rd.own oA)
            have RN := Lib.hid (Rd.own oB)
            have RX := Lib.hid (RX.out.keeps hK)
            have RT := Lib.hid (HRT.out.keeps (HK.out.trans hK (fun _ _ h => h)) (fun _ _ h => h))
            have HK := Lib.hid (HK.out.trans hK (fun _ _ h => h))
            have HBL := Lib.hid hb'
            have HB32 := Lib.hid hb32
            clear oA oB hK hb' hb32
            have hm21 : m ≤ 21 := hlen
            have sb := strs_bounds a' HA60.out
            rw [HAL.out] at sb
            obtain ⟨sb1, sb2⟩ := sb
            obtain ⟨x1, x2, x3, x4, x5⟩ := HSM.out
            have HST := Lib.hid (fun w A c hR => stStrings w A m c a' HAL.out hR (by omega) (fun x hx => by have := HA60.out x hx; omega) (by omega))
            have HNB := Lib.hid (fun w A c hR => arNumsB w A m c b' HBL.out hR (by omega) HB32.out)
            have HLE := Lib.hid (fun w A c hR => arLens w A m c X HMX.out hR (by omega) (by omega))
            have HOF := Lib.hid (fun w A c hR => arOffsets w A m c (X.map List.length) (by rw [List.length_map]; exact HMX.out) hR (by omega) (by omega))
            have HFL := Lib.hid (fun w A c hR => arFlat w A m c X HMX.out hR (by omega) (by omega))
            have HSX := Lib.hid (fun w A c hR => stStrings w A X.flatten.length c X.flatten rfl hR (by omega) (fun x hx => by have := x2 x hx; omega) (by omega))
            have hts := tup_spec a' b' X
            have hol : (offB (X.map List.length) 0).length = 8 * m := by rw [offB_length, List.length_map, HMX.out]
            have hul : (u32s b').length = 4 * m := by rw [u32s_length, HBL.out]
            have htl2 : (tupB a' b' X).length = (a'.map strB).flatten.length + 4 * m + 8 * m + (X.flatten.map strB).flatten.length := by rw [← hts, List.length_append, List.length_append, List.length_append, hol, hul]
            have HAR := Lib.hid (fun w Ea ka Eb kb Ec kc ha hb hc => arTuple w Ea m ka a' Eb m kb b' Ec m kc X HAL.out HBL.out HMX.out ha hb hc (fun x hx => by have := HA60.out x hx; omega) (fun L hL x hx => by have := (HIN.out L hL).2 x hx; omega) (by omega) (by omega) (by omega) (by omega) (by omega) (by omega) (by omega))
            have HRE := Lib.hid (fun (v : World) (E : Option Addr) (cE len : Nat) (l : List UInt8) (hL : l = tupB a' b' X ++ d) hlen hR hc hE => readTuple v E cE (a'.map sl) b' X m X.flatten.length len d l (by omega) (by omega) (by rw [List.length_map]; exact HAL.out) HBL.out HMX.out (by omega) HB32.out rfl hp1 (by omega) (by omega) (by rw [hL, tupB, List.append_assoc, List.append_assoc]) hlen hR hc hE)
            have HSV := Lib.hid (sv_sl a')
            have HS1 := Lib.hid (fun w A B c d hA hB => arSameListS w A B m c d a' HAL.out hA hB (by omega))
            have HS2 := Lib.hid (fun w A B c d hA hB => arSameListN w A B m c d b' HBL.out hA hB (by omega))
            have HS3 := Lib.hid (fun w A B c d hA hB => arSameS w A B m c d X HMX.out hA hB (by omega) (by omega))
            rw [List.map_map] at HOF
            have hVL : (X.map fun L => Value.int .i64 (L.length : Int)) = X.map ((fun x : Nat => Value.int .i64 (x : Int)) ∘ List.length) := rfl
            rw [hVL] at HLE
            clear hVL
            have y1 : (a'.map strB).flatten.length ≤ 1470 := by omega
            have y2 := x4
            have HNF := Lib.hid x1
            clear x1 x2 x3 x4 x5 sb1 sb2
            generalize X.map ((fun x : Nat => Value.int .i64 (x : Int)) ∘ List.length) = VL at *
            generalize offB (X.map List.length) 0 = d3 at *
            generalize (X.flatten.map strB).flatten = d4 at *
            generalize (a'.map strB).flatten = d1 at *
            generalize u32s b' = d2 at *
            generalize hdd : tupB a' b' X = dd at *
            generalize X.flatten.length = f at *
            generalize hn1 : d1.length = n1 at *
            generalize hn4 : d4.length = n4 at *
            obtain ⟨n2, hn2⟩ : ∃ n2, 4 * m = n2 := ⟨_, rfl⟩
            obtain ⟨n3, hn3⟩ : ∃ n3, 8 * m = n3 := ⟨_, rfl⟩
            rw [hn2] at HNB htl2
            rw [hn3] at HOF htl2
            have y3 : n2 ≤ 84 := by omega
            have y4 : n3 ≤ 168 := by omega
            have y5 : 0 < n3 := by omega
            have HCAT := Lib.hid hts
            have HND := Lib.hid htl2
            clear hts hol hul htl2 hdd hn1 hn4 hn2 hn3
            go_wp2_with fail
            refine (HTL.out wr).mono ?_
            rintro e v0 ⟨rfl, rfl⟩
            go_wp2_with fail
            refine (HST.out _ A1 a1 RA.out).mono ?_
            rintro e v1 ⟨VD1, cD1, rfl, o1, k1, _⟩
            have RA := Lib.hid (RA.out.keeps k1 (fun _ _ h => h))
            have RN := Lib.hid (RN.out.keeps k1 (fun _ _ h => h))
            have RX := Lib.hid (RX.out.keeps k1)
            have RT := Lib.hid (RT.out.keeps k1 (fun _ _ h => h))
            have HK := Lib.hid (HK.out.trans k1 (fun _ _ h => h))
            have D1 := Lib.hid (Rd.own o1)
            clear o1 k1
            go_wp2_with fail
            refine (HNB.out _ B1 b1 RN.out).mono ?_
            rintro e v2 ⟨VD2, cD2, rfl, o2, k2, _⟩
            have RA := Lib.hid (RA.out.keeps k2 (fun _ _ h => h))
            have RN := Lib.hid (RN.out.keeps k2 (fun _ _ h => h))
            have RX := Lib.hid (RX.out.keeps k2)
            have RT := Lib.hid (RT.out.keeps k2 (fun _ _ h => h))
            have D1 := Lib.hid (D1.out.keeps k2 (fun _ _ h => h))
            have HK := Lib.hid (HK.out.trans k2 (fun _ _ h => h))
            have D2 := Lib.hid (Rd.own o2)
            clear o2 k2
            go_wp2_with fail
            refine (HLE.out _ A2 c2 RX.out).mono ?_
            rintro e v3 ⟨VLN, cLN, rfl, o3, k3, _⟩
            have RA := Lib.hid (RA.out.keeps k3 (fun _ _ h => h))
            have RN := Lib.hid (RN.out.keeps k3 (fun _ _ h => h))
            have RX := Lib.hid (RX.out.keeps k3)
            have RT := Lib.hid (RT.out.keeps k3 (fun _ _ h => h))
            have D1 := Lib.hid (D1.out.keeps k3 (fun _ _ h => h))
            have D2 := Lib.hid (D2.out.keeps k3 (fun _ _ h => h))
            have HK := Lib.hid (HK.out.trans k3 (fun _ _ h => h))
            have LN := Lib.hid (Rd.own o3)
            clear o3 k3
            go_wp2_with fail
            refine (HOF.out _ VLN cLN LN.out).mono ?_
            rintro e v4 ⟨VD3, cD3, rfl, o4, k4, _⟩
            have RA := Lib.hid (RA.out.keeps k4 (fun _ _ h => h))
            have RN := Lib.hid (RN.out.keeps k4 (fun _ _ h => h))
            have RX := Lib.hid (RX.out.keeps k4)
            have RT := Lib.hid (RT.out.keeps k4 (fun _ _ h => h))
            have D1 := Lib.hid (D1.out.keeps k4 (fun _ _ h => h))
            have D2 := Lib.hid (D2.out.keeps k4 (fun _ _ h => h))
            have LN := Lib.hid (LN.out.keeps k4 (fun _ _ h => h))
            have HK := Lib.hid (HK.out.trans k4 (fun _ _ h => h))
            have D3 := Lib.hid (Rd.own o4)
            clear o4 k4
            go_wp2_with fail
            refine (HFL.out _ A2 c2 RX.out).mono ?_
            rintro e v5 ⟨VFL, cFL, rfl, o5, k5, _⟩
            have RA := Lib.hid (RA.out.keeps k5 (fun _ _ h => h))
            have RN := Lib.hid (RN.out.keeps k5 (fun _ _ h => h))
            have RX := Lib.hid (RX.out.keeps k5)
            have RT := Lib.hid (RT.out.keeps k5 (fun _ _ h => h))
            have D1 := Lib.hid (D1.out.keeps k5 (fun _ _ h => h))
            have D2 := Lib.hid (D2.out.keeps k5 (fun _ _ h => h))
            have LN := Lib.hid (LN.out.keeps k5 (fun _ _ h => h))
            have D3 := Lib.hid (D3.out.keeps k5 (fun _ _ h => h))
            have HK := Lib.hid (HK.out.trans k5 (fun _ _ h => h))
            have FL := Lib.hid (Rd.own o5)
            clear o5 k5
            go_wp2_with fail
            refine (HSX.out _ VFL cFL FL.out).mono ?_
            rintro e v6 ⟨VD4, cD4, rfl, o6, k6, _⟩
            have RA := Lib.hid (RA.out.keeps k6 (fun _ _ h => h))
            have RN := Lib.hid (RN.out.keeps k6 (fun _ _ h => h))
            have RX := Lib.hid (RX.out.keeps k6)
            have RT := Lib.hid (RT.out.keeps k6 (fun _ _ h => h))
            have D1 := Lib.hid (D1.out.keeps k6 (fun _ _ h => h))
            have D2 := Lib.hid (D2.out.keeps k6 (fun _ _ h => h))
            have LN := Lib.hid (LN.out.keeps k6 (fun _ _ h => h))
            have D3 := Lib.hid (D3.out.keeps k6 (fun _ _ h => h))
            have FL := Lib.hid (FL.out.keeps k6 (fun _ _ h => h))
            have HK := Lib.hid (HK.out.trans k6 (fun _ _ h => h))
            have D4 := Lib.hid (Rd.own o6)
            clear o6 k6
            go_wp2_with fail
            have KB := (Keeps.refl (fun _ => False) v6).alloc (.cells #[.slice VD1 n1 cD1, .slice VD2 n2 cD2, .slice VD3 n3 cD3, .slice VD4 n4 cD4] 25)
            refine (stJoinFour _ v6.heap.size 25 VD1 n1 cD1 d1 VD2 n2 cD2 d2 VD3 n3 cD3 d3 VD4 n4 cD4 d4 (Whole.new v6 _ _) (D1.out.keeps KB (fun _ _ h => h)) (D2.out.keeps KB (fun _ _ h => h)) (D3.out.keeps KB (fun _ _ h => h)) (D4.out.keeps KB (fun _ _ h => h)) (by omega)).mono ?_
            rintro e v7 ⟨VJ, cJ, rfl, o7, k7, _⟩
            rw [HCAT.out] at o7
            have k67 := KB.trans k7 (fun _ _ h => h)
            have RA := Lib.hid (RA.out.keeps k67 (fun _ _ h => h))
            have RN := Lib.hid (RN.out.keeps k67 (fun _ _ h => h))
            have RX := Lib.hid (RX.out.keeps k67)
            have RT := Lib.hid (RT.out.keeps k67 (fun _ _ h => h))
            have HK := Lib.hid (HK.out.trans k67 (fun _ _ h => h))
            have RJ := Lib.hid (Rd.own o7)
            clear o7 k7 k67 KB
            go_wp2_with fail
            refine (HAR.out v7 A1 a1 B1 b1 A2 c2 RA.out RN.out RX.out).mono ?_
            rintro e v8 ⟨VG, cG, hbe, o8, k8⟩
            rw [HND.out] at hbe o8
            subst hbe
            have RA := Lib.hid (RA.out.keeps k8 (fun _ _ h => h))
            have RN := Lib.hid (RN.out.keeps k8 (fun _ _ h => h))
            have RX := Lib.hid (RX.out.keeps k8)
            have RT := Lib.hid (RT.out.keeps k8 (fun _ _ h => h))
            have RJ := Lib.hid (RJ.out.keeps k8 (fun _ _ h => h))
            have HK := Lib.hid (HK.out.trans k8 (fun _ _ h => h))
            have RG := Lib.hid (Rd.own o8)
            clear o8 k8
            go_wp2_with fail
            have KB := (Keeps.refl (fun _ => False) v8).alloc (.cells #[.slice VJ (n1 + n2 + n3 + n4) cJ, .slice T m2 ct] 25)
            refine (stJoinTwo _ v8.heap.size 25 VJ T (n1 + n2 + n3 + n4) cJ m2 ct dd d (Whole.new v8 _ _) (RJ.out.keeps KB (fun _ _ h => h)) (RT.out.keeps KB (fun _ _ h => h)) (by omega)).mono ?_
            rintro e v9 ⟨VI, cI, rfl, o9, k9, _⟩
            have k89 := KB.trans k9 (fun _ _ h => h)
            have RA := Lib.hid (RA.out.keeps k89 (fun _ _ h => h))
            have RN := Lib.hid (RN.out.keeps k89 (fun _ _ h => h))
            have RX := Lib.hid (RX.out.keeps k89)
            have RT := Lib.hid (RT.out.keeps k89 (fun _ _ h => h))
            have RJ := Lib.hid (RJ.out.keeps k89 (fun _ _ h => h))
            have RG := Lib.hid (RG.out.keeps k89 (fun _ _ h => h))
            have HK := Lib.hid (HK.out.trans k89 (fun _ _ h => h))
            have OI := Lib.hid o9
            clear o9 k9 k89 KB
            go_wp2_with fail
            refine (HRE.out v9 VI cI (n1 + n2 + n3 + n4 + m2) (dd ++ d) rfl (by rw [List.length_append, HTD.out, HND.out]) (Rd.own OI.out) (own_capN OI.out (by omega)) (fun i hi => (OI.out.lt i (by rw [ownBlock_slice]; exact hi)).2)).mono ?_
            rintro e v10 ⟨T1, t1, T2, t2, T3, t3, VS, hte, hRt⟩
            rw [HTD.out] at hte
            subst hte
            have k10 := hRt.kp
            have RA := Lib.hid (RA.out.keeps k10 (fun _ _ h => h))
            have RN := Lib.hid (RN.out.keeps k10 (fun _ _ h => h))
            have RX := Lib.hid (RX.out.keeps k10)
            have RT := Lib.hid (RT.out.keeps k10 (fun _ _ h => h))
            have RJ := Lib.hid (RJ.out.keeps k10 (fun _ _ h => h))
            have RG := Lib.hid (RG.out.keeps k10 (fun _ _ h => h))
            have HK := Lib.hid (HK.out.trans k10 (fun _ _ h => h))
            have S1 := Lib.hid (show Rd v10 1 T1 m (a'.map Value.string) by have h := Rd.own hRt.o1; rw [HSV.out] at h; exact h)
            have S2 := Lib.hid (Rd.own hRt.o2)
            have S3 := Lib.hid (show RowsOf v10 T3 X from RB.rows hRt.rb hRt.o3)
            clear hRt k10
            have hcj := cv_str (c := cJ) RJ.out
            have hcg := cv_str (c := cG) RG.out
            go_wp2_with fail
            refine (HS1.out v10 T1 A1 t1 a1 S1.out RA.out).mono ?_
            rintro e v11 hq
            obtain ⟨rfl, k11⟩ := hq.keeps
            have RA := Lib.hid (RA.out.keeps k11 (fun _ _ h => h))
            have RN := Lib.hid (RN.out.keeps k11 (fun _ _ h => h))
            have RX := Lib.hid (RX.out.keeps k11)
            have S2 := Lib.hid (S2.out.keeps k11 (fun _ _ h => h))
            have S3 := Lib.hid (S3.out.keeps k11)
            have HK := Lib.hid (HK.out.trans k11 (fun _ _ h => h))
            clear hq k11 hcj hcg
            go_wp2_with fail
            refine (HS2.out v11 T2 B1 t2 b1 S2.out RN.out).mono ?_
            rintro e v12 hq
            obtain ⟨rfl, k12⟩ := hq.keeps
            have RA := Lib.hid (RA.out.keeps k12 (fun _ _ h => h))
            have RN := Lib.hid (RN.out.keeps k12 (fun _ _ h => h))
            have RX := Lib.hid (RX.out.keeps k12)
            have S2 := Lib.hid (S2.out.keeps k12 (fun _ _ h => h))
            have S3 := Lib.hid (S3.out.keeps k12)
            have HK := Lib.hid (HK.out.trans k12 (fun _ _ h => h))
            clear hq k12
            go_wp2_with fail
            refine (HS3.out v12 T3 A2 t3 c2 S3.out RX.out).mono ?_
            rintro e v13 hq
            obtain ⟨rfl, k13⟩ := hq.keeps
            have HK := Lib.hid (HK.out.trans k13 (fun _ _ h => h))
            clear hq k13
            go_wp2_with fail
            go_ret
            exact ⟨rfl, HK.out.below (Nat.le_refl _) (fun _ h => h.elim)⟩
end Go.Proofs.Ytpcjifhklofofaa
