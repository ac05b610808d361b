/- The specification reads values one behind the other. Conditions: its table of widths is laid; the Ops are from 1 to 22. -/
import Derived.Test.YthfoleapdmpdfaaDoorPsH
namespace Go.Proofs.YthfoleapdmpdfaaDoor
open Go.RowKit Go.Lib
set_option linter.unusedVariables false
/-- The state of the loop. -/
structure SI (w : World) (b : Nat) (A : Option Addr) (O : Option Addr) (k c : Nat) (gs : List PGot) : Prop where
  own : w.ownsRow b 34 4 (.slice O k c) k (gs.map gotC).flatten
  len : gs.length = k
  rd : ∀ g ∈ gs, Rd w 1 g.A g.S.length (Lib.byteCells g.S)
  farS : ∀ g ∈ gs, 0 < g.S.length → ∀ i, ob g.A = some i → ob O ≠ some i ∧ i < w.heap.size
  farA : ∀ i, ob A = some i → ob O ≠ some i
theorem SI.new {w w1 : World} {b : Nat} {A O : Option Addr} {k c : Nat} {gs : List PGot} (h : SI w b A O k c gs) (hk : Keeps (fun _ => False) w w1) : SI w1 b A O k c gs :=
  ⟨own_keeps h.own hk (fun _ _ h => h), h.len, fun g hg => (h.rd g hg).keeps hk (fun _ _ h => h), fun g hg h0 i hi => ⟨(h.farS g hg h0 i hi).1, Nat.lt_of_lt_of_le (h.farS g hg h0 i hi).2 hk.size⟩, h.farA⟩
theorem SI.app {w w1 : World} {b : Nat} {A O O' : Option Addr} {k c c' : Nat} {gs : List PGot} {g : PGot} (h : SI w b A O k c gs) (hg : w.grownBy w1 (ob O)) (hat : ob O' = ob O ∨ ob O' = some w.heap.size) (hown : w1.ownsRow b 34 4 (.slice O' (k + 1) c') (k + 1) ((gs.map gotC).flatten ++ gotC g))
    (hr : Rd w 1 g.A g.S.length (Lib.byteCells g.S)) (hf : 0 < g.S.length → ∀ i, ob g.A = some i → ob O ≠ some i ∧ i < w.heap.size) (hA : ∀ i, ob A = some i → i < w.heap.size) : SI w1 b A O' (k + 1) c' (gs ++ [g]) := by
  have kg : Keeps (fun i => ob O = some i) w w1 := (Keeps.refl _ _).grown hg (fun i hi => .inl hi)
  have hall : ∀ x ∈ gs ++ [g], Rd w 1 x.A x.S.length (Lib.byteCells x.S) ∧ (0 < x.S.length → ∀ i, ob x.A = some i → ob O ≠ some i ∧ i < w.heap.size) := by
    intro x hx
    rcases List.mem_append.mp hx with hx | hx
    · exact ⟨h.rd x hx, h.farS x hx⟩
    · rw [List.mem_singleton] at hx
      subst hx
      exact ⟨hr, hf⟩
  refine ⟨?_, by rw [List.length_append, h.len]; rfl, fun x hx => (hall x hx).1.keepsI kg (fun h0 i hi e => ((hall x hx).2 h0 i hi).1 e), fun x hx h0 i hi => ?_, fun i hi => ?_⟩
  · rw [List.map_append, List.flatten_append]
    simpa using hown
  · obtain ⟨a4, a5⟩ := (hall x hx).2 h0 i hi
    refine ⟨?_, Nat.lt_of_lt_of_le a5 kg.size⟩
    rcases hat with e | e
    · rw [e]; exact a4
    · rw [e]; intro h; injection h with h; omega
  · rcases hat with e | e
    · rw [e]; exact h.farA i hi
    · rw [e]; intro h2; injection h2 with h2; have := hA i hi; omega
/-- What is left reads so. -/
def Left (w : World) (A Ab : Option Addr) (mb cb : Nat) (l : List UInt8) : Prop := mb = l.length ∧ mb ≤ cb ∧ Rd w 1 Ab mb (Lib.byteCells l) ∧ ob Ab = ob A
def LastE (gs : List PGot) (k : Nat) (st : Option (List UInt8)) : Prop := (k = 0 ∧ st.isNone = false) ∨ ∃ g, 0 < k ∧ gs[k - 1]? = some g ∧ g.E = st.isNone
def ReadsR (w' : World) (d : List UInt8) (n : Nat) (asks : List PAsk) (e : Ending) : Prop :=
  (e = .returned (.tuple #[.slice none 0 0, .bool false])) ∨
  (Looks d asks ∧ ∃ O cO gs, e = .returned (.tuple #[.slice O n cO, .bool true]) ∧ GotsAt w' O n gs ∧ gs.map PGot.val = (readM d asks).2)
set_option maxRecDepth 100000 in
set_option maxHeartbeats 8000000 in
theorem prReadsAll (w : World) (hW : WidthsV w) (A : Option Addr) (c : Nat) (d : List UInt8) (hdl : d.length ≤ 1000) (hc : d.length ≤ c) (hA : Rd w 1 A d.length (Lib.byteCells d)) (hAl : ∀ i, ob A = some i → i < w.heap.size) (E : Option Addr) (n ce : Nat) (asks : List PAsk) (hE : AsksAt w E n asks) (hn : n ≤ 1000) (hop : ∀ a ∈ asks, 1 ≤ a.op ∧ a.op ≤ 22 ∧ a.s.length ≤ 1000 ∧ (a.op = 19 → a.u ≤ 1000)) :
    Calls Tryd.prog 8 #[.slice A d.length c, .slice E n ce] w fun e w' => ReadsR w' d n asks e ∧ Keeps (fun _ => False) w w' := by
  obtain ⟨i0, hi0, hz0, hz1, hz2⟩ := info_parts infoGotE
  have HE := Lib.hid hE
  have HW := Lib.hid hW
  have HOP := Lib.hid hop
  have HAL := Lib.hid hAl
  have HDL := Lib.hid hdl
  have HL0 := Lib.hid (show Left w A A d.length c d from ⟨rfl, hc, hA, rfl⟩)
  clear hE hop hAl hW hdl hA
  obtain ⟨m0, hm0⟩ : ∃ m0, m0 = d.length := ⟨_, rfl⟩
  rw [← hm0] at HL0 hc ⊢
  clear hm0 hc
  go_enter Tryd.func8, Tryd.ntmps8
  go_wp2_with fail
  go_loopw [0, 6, 14] (fun b v i wr => ∃ (k : Nat) (O : Option Addr) (cO : Nat) (gs : List PGot) (Ab : Option Addr) (mb cb : Nat), k ≤ n ∧ b = .slice Ab mb cb ∧ v = .slice O k cO ∧ i = .int .i64 k ∧ Hid (SI wr w.heap.size A O k cO gs) ∧ Hid (gs.map PGot.val = (readM d (asks.take k)).2) ∧ Hid (∀ l, (readM d (asks.take k)).1 = some l → Left wr A Ab mb cb l ∧ l.length ≤ d.length) ∧ Hid (LastE gs k (readM d (asks.take k)).1) ∧ Hid (∀ j a l, j < k → asks[j]? = some a → (readM d (asks.take j)).1 = some l → lenOp a.op.toNat = true → ∀ x m, uvGo 10 0 0 l = some (x, m) → x ≤ 1000) ∧ Hid (Keeps (fun _ => False) w wr)) (fun _ _ i _ => n - (RowKit.intOf i).toNat)
  case atStart => exact ⟨0, none, 0, [], A, m0, c, Nat.zero_le _, rfl, rfl, rfl, Lib.hid ⟨World.ownsRow_nil _ _ _ _, rfl, (fun g h => by cases h), (fun g h => by cases h), (fun i _ h => by cases h)⟩, Lib.hid rfl, Lib.hid (fun l h => by injection h with h; subst h; exact ⟨HL0.out, Nat.le_refl _⟩), Lib.hid (.inl ⟨rfl, rfl⟩), Lib.hid (fun j a l h => absurd h (by omega)), Lib.hid (Keeps.refl _ _)⟩
  case round =>
    obtain ⟨k, O, cO, gs, Ab, mb, cb, hk, rfl, rfl, rfl, HP, HV, HRD, HLE, HLK, HK⟩ := hrel
    by_cases hlt : k < n
    · obtain ⟨a, ha⟩ : ∃ a, asks[k]? = some a := ⟨_, List.getElem?_eq_getElem (by rw [HE.out.len]; exact hlt)⟩
      have hE2 := HE.out.new HK.out
      obtain ⟨ad, hEe, hb, hcell⟩ := rows4 askC askC_len hE2.len hE2.rows ha
      subst hEe
      have hbytes := hE2.bytes a (List.mem_of_getElem? ha)
      have x0 : wr.cell? (ad.add (k * 4)) = some (.int .i64 a.op) := hcell 0 _ rfl
      have x1 : wr.cell? ⟨(ad.add (k * 4)).block, (ad.add (k * 4)).off + 1, none⟩ = some (.int .u64 (a.u : Int)) := hcell 1 _ rfl
      have x2 : wr.cell? ⟨(ad.add (k * 4)).block, (ad.add (k * 4)).off + 2, none⟩ = some (.int .u64 a.v) := hcell 2 _ rfl
      have x3 : wr.cell? ⟨(ad.add (k * 4)).block, (ad.add (k * 4)).off + 3, none⟩ = some (.slice a.A a.s.length a.c) := hcell 3 _ rfl
      have HOS := Lib.hid (HOP.out a (List.mem_of_getElem? ha))
      have HSN := Lib.hid (readM_snoc (d := d) ha)
      have HAA := Lib.hid ha
      have K1 := (Keeps.refl (fun _ => False) wr).alloc (.cells #[.int .i64 a.op, .int .u64 (a.u : Int), .int .u64 a.v, .slice a.A a.s.length a.c] 28)
      have HBY := Lib.hid (hbytes.keeps K1 (fun _ _ h => h))
      clear hcell hE2 ha hbytes
      rcases hst : (readM d (asks.take k)).1 with _ | l
      · have hle := HLE.out
        rw [hst] at hle
        obtain ⟨g, hk0, hg, hgE⟩ : ∃ g, 0 < k ∧ gs[k - 1]? = some g ∧ g.E = true := by
          rcases hle with ⟨_, h⟩ | ⟨g, h1, h2, h3⟩
          · cases h
          · exact ⟨g, h1, h2, h3⟩
        obtain ⟨ao, hO, hob, hoc⟩ := rows4 gotC gotC_len (HP.out.new K1).len (Rd.own (HP.out.new K1).own) hg
        have y3 : (wr.alloc (.cells #[.int .i64 a.op, .int .u64 (a.u : Int), .int .u64 a.v, .slice a.A a.s.length a.c] 28)).cell? ⟨(ao.add ((k - 1) * 4)).block, (ao.add ((k - 1) * 4)).off + 3, none⟩ = some (.bool true) := by rw [← hgE]; exact hoc 3 _ rfl
        have kw : IntKind.i64.wrap ((k : Int) - 1) = ((k - 1 : Nat) : Int) := by rw [IntKind.wrap_i64]; omega
        have kb1 : ((k - 1 : Nat) : Int) < (k : Int) := by omega
        have kb0 : (0 : Int) < (k : Int) := by omega
        subst hO
        have Kb := K1.alloc (.cells #[.int .u64 0, .int .u64 0, .slice none 0 0, .bool true] 34)
        have hPb := HP.out.new Kb
        have hRd := rd4new (wr.alloc (.cells #[.int .i64 a.op, .int .u64 (a.u : Int), .int .u64 a.v, .slice a.A a.s.length a.c] 28)) 34 (.int .u64 0) (.int .u64 0) (.slice none 0 0) (.bool true)
        rw [World.size_alloc] at hRd
        have n3 : w.heap.size ≤ ((wr.alloc (.cells #[.int .i64 a.op, .int .u64 (a.u : Int), .int .u64 a.v, .slice a.A a.s.length a.c] 28)).alloc (.cells #[.int .u64 0, .int .u64 0, .slice none 0 0, .bool true] 34)).heap.size := Nat.le_trans HK.out.size Kb.size
        clear hoc hle
        go_wp2_with (
          at_builtin
          refine wpList_append_rd _ rfl (.tmp 30) (.tmp 32) _ rfl w.heap.size 34 i0 _ 4 48 Tryd.underlying29 hi0 hz0 hz1 hz2 rfl (by omega) _ cO k _ rfl hPb.own (some ⟨wr.heap.size + 1, 0, none⟩) 1 1 _ rfl hRd (one4 _ _ _ _ _ _) (by simp only [maxLen]; omega) (by omega) n3 ?_
          intro O3 c3 w3 o3 hg3 hat3)
        have hP3 := hPb.app (g := ⟨0, 0, [], true, none, 0⟩) hg3 hat3 o3 Rd.none' (fun h => absurd h (by simp)) (fun i hi => Nat.lt_of_lt_of_le (HAL.out i hi) (Nat.le_trans HK.out.size Kb.size))
        have hlO := hPb.own.lt
        rw [ownBlock_slice] at hlO
        have hk3 := (HK.out.trans Kb (fun _ _ h => h)).grown hg3 (fun i hi => .inr (hlO i hi).1)
        go_roundw
        case rel => exact ⟨k + 1, O3, c3, _, Ab, mb, cb, by omega, rfl, rfl, by go_num, Lib.hid hP3, Lib.hid (by rw [HSN.out, stepM_stop hst, List.map_append, HV.out]; rfl), Lib.hid (fun l h => by rw [HSN.out, stepM_stop hst] at h; cases h), Lib.hid (.inr ⟨_, by omega, by rw [List.getElem?_append_right (by rw [HP.out.len]; omega), HP.out.len]; simp; rfl, by rw [HSN.out, stepM_stop hst]; rfl⟩), Lib.hid (fun j a' l' hj hja hst' => by
          by_cases hjk : j = k
          · subst hjk
            rw [hst] at hst'; cases hst'
          · exact HLK.out j a' l' (by omega) hja hst'), Lib.hid hk3⟩
        case measure => (first | (simp [RowKit.intOf]; done) | (simp [RowKit.intOf]; omega))
      · obtain ⟨⟨hmb, hmc, hRl, hAb⟩, hll⟩ := HRD.out l hst
        subst hmb
        have hle := HLE.out
        rw [hst] at hle
        have HST := Lib.hid hst
        have hdl := HDL.out
        have HG := Lib.hid (prReadOne (wr.alloc (.cells #[.int .i64 a.op, .int .u64 (a.u : Int), .int .u64 a.v, .slice a.A a.s.length a.c] 28)) (HW.out.new (HK.out.trans K1 (fun _ _ h => h))) Ab cb l (by omega) (hRl.keeps K1 (fun _ _ h => h)) a.op HOS.out.1 HOS.out.2.1 a.u a.v a.A a.c a.s HBY.out HOS.out.2.2.1 hmc HOS.out.2.2.2)
        have HLL := Lib.hid (And.intro hll (And.intro hmc (And.intro hRl hAb)))
        have hpre : (¬ (0 : Int) < (k : Int)) ∨ ∃ ao, O = some ao ∧ (0 : Int) < (k : Int) ∧ ((k - 1 : Nat) : Int) < (k : Int) ∧ IntKind.i64.wrap ((k : Int) - 1) = ((k - 1 : Nat) : Int) ∧ (wr.alloc (.cells #[.int .i64 a.op, .int .u64 (a.u : Int), .int .u64 a.v, .slice a.A a.s.length a.c] 28)).cell? ⟨(ao.add ((k - 1) * 4)).block, (ao.add ((k - 1) * 4)).off + 3, none⟩ = some (.bool false) := by
          rcases hle with ⟨h0, _⟩ | ⟨g, hk0, hg, hgE⟩
          · exact .inl (by omega)
          · obtain ⟨ao, hO, hob, hoc⟩ := rows4 gotC gotC_len (HP.out.new K1).len (Rd.own (HP.out.new K1).own) hg
            exact .inr ⟨ao, hO, by omega, by omega, by rw [IntKind.wrap_i64]; omega, by rw [show (some (Value.bool false)) = some (.bool g.E) by rw [hgE]; rfl]; exact hoc 3 _ rfl⟩
        have HK1 := Lib.hid K1
        clear hle hll hmc hRl hAb hst K1 hdl
        obtain ⟨mb, hmb⟩ : ∃ mb, mb = l.length := ⟨_, rfl⟩
        have HMB := Lib.hid hmb
        rw [← hmb] at HG ⊢
        clear hmb
        rcases hpre with hz | ⟨ao, rfl, kb0, kb1, kw, y3⟩
        all_goals
          go_wp2_with fail
          refine HG.out.mono ?_
          rintro e w4 ⟨hrr, K4⟩
          rcases hrr with ⟨hl1, _, xx, nn, rfl⟩ | ⟨hlook, ⟨U, V, S, l', A', c', hgm, hlen, hl', rfl, hRS, hfS⟩ | ⟨hgm, nn, rfl⟩⟩
          · simp only [gotX]
            go_wp2_with fail
            go_ret2
            exact ⟨.inl rfl, ((HK.out.trans HK1.out (fun _ _ h => h)).trans K4 (fun _ _ h => h)).alloc _⟩
          · obtain ⟨q, hq⟩ : ∃ q, q = l.length - l'.length := ⟨_, rfl⟩
            rw [← hq]
            have HQ := Lib.hid (And.intro hq (And.intro hlen hl'))
            have hq0 : (0 : Int) ≤ (q : Int) := by omega
            have hq1 : (q : Int) ≤ (mb : Int) := by have := HMB.out; omega
            have Kb := ((HK1.out.trans K4 (fun _ _ h => h)).alloc (.cells #[.int .u64 (U : Int), .int .u64 (V : Int), .slice A' S.length c', .bool false] 34)).alloc (.cells #[.int .u64 (U : Int), .int .u64 (V : Int), .slice A' S.length c', .bool false] 34)
            have hPb := HP.out.new Kb
            have hRd := rd4new (w4.alloc (.cells #[.int .u64 (U : Int), .int .u64 (V : Int), .slice A' S.length c', .bool false] 34)) 34 (.int .u64 (U : Int)) (.int .u64 (V : Int)) (.slice A' S.length c') (.bool false)
            rw [World.size_alloc] at hRd
            have n3 : w.heap.size ≤ ((w4.alloc (.cells #[.int .u64 (U : Int), .int .u64 (V : Int), .slice A' S.length c', .bool false] 34)).alloc (.cells #[.int .u64 (U : Int), .int .u64 (V : Int), .slice A' S.length c', .bool false] 34)).heap.size := Nat.le_trans HK.out.size Kb.size
            clear hq hlen hl'
            rcases Ab with _ | ab
            · have hmb0 : mb = 0 := by
                rcases Nat.eq_zero_or_pos l.length with h | h
                · rw [HMB.out]; exact h
                · obtain ⟨_, h1, _⟩ := HLL.out.2.2.1.2 h
                  cases h1
              have hq00 : q = 0 := by have := HQ.out.1; have := HMB.out; omega
              have hq2 : (q : Int) ≤ (cb : Int) := by omega
              go_wp2_with (
                at_builtin
                refine wpList_append_rd _ rfl (.tmp 49) (.tmp 51) _ rfl w.heap.size 34 i0 _ 4 48 Tryd.underlying29 hi0 hz0 hz1 hz2 rfl (by omega) _ cO k _ rfl hPb.own (some ⟨w4.heap.size + 1, 0, none⟩) 1 1 _ rfl hRd (one4 _ _ _ _ _ _) (by simp only [maxLen]; omega) (by omega) n3 ?_
                intro O3 c3 w3 o3 hg3 hat3)
              have hlO := hPb.own.lt
              rw [ownBlock_slice] at hlO
              have hlO2 := HP.out.own.lt
              rw [ownBlock_slice] at hlO2
              have hAW := (hRS.keeps ((Keeps.refl (fun _ => False) w4).alloc (.cells #[.int .u64 (U : Int), .int .u64 (V : Int), .slice A' S.length c', .bool false] 34)) (fun _ _ h => h)).keeps ((Keeps.refl (fun _ => False) _).alloc (.cells #[.int .u64 (U : Int), .int .u64 (V : Int), .slice A' S.length c', .bool false] 34)) (fun _ _ h => h)
              have hP3 := hPb.app (g := ⟨U, V, S, false, A', c'⟩) hg3 hat3 o3 hAW (fun h0 i hi => by
                obtain ⟨ad', e, hb', _⟩ := hAW.2 h0
                have e2 : ad'.block = i := by
                  have h : ob A' = some i := hi
                  rw [e] at h
                  injection h
                refine ⟨fun h => ?_, by rw [← e2]; exact hb'⟩
                rcases hfS i hi with hA | hge
                · exact hPb.farA i (by rw [← HLL.out.2.2.2]; exact hA) h
                · have := (hlO2 i h).2; rw [World.size_alloc] at hge; omega) (fun i hi => Nat.lt_of_lt_of_le (HAL.out i hi) (Nat.le_trans HK.out.size Kb.size))
              have hk3 := (HK.out.trans Kb (fun _ _ h => h)).grown hg3 (fun i hi => .inr (hlO i hi).1)
              go_roundw
              case rel => exact ⟨k + 1, O3, c3, _, _, _, _, by omega, rfl, rfl, by go_num, Lib.hid hP3, Lib.hid (by rw [HSN.out, stepM_ok HST.out hgm, List.map_append, HV.out]; rfl), Lib.hid (fun l2 h => by rw [HSN.out, stepM_ok HST.out hgm] at h; injection h with h; subst h; exact ⟨⟨by rw [(show l' = [] from List.eq_nil_of_length_eq_zero (by have := HQ.out; have := HMB.out; omega))]; rfl, Nat.zero_le _, by rw [(show l' = [] from List.eq_nil_of_length_eq_zero (by have := HQ.out; have := HMB.out; omega))]; exact Rd.none', HLL.out.2.2.2⟩, by have := HQ.out.2.1; have := HLL.out.1; omega⟩), Lib.hid (.inr ⟨_, by omega, by rw [List.getElem?_append_right (by rw [HP.out.len]; omega), HP.out.len]; simp; rfl, by rw [HSN.out, stepM_ok HST.out hgm]; rfl⟩), Lib.hid (fun j a' l2 hj hja hst' => by
                by_cases hjk : j = k
                · subst hjk
                  rw [HST.out] at hst'
                  injection hst' with hst'
                  rw [HAA.out] at hja
                  injection hja with hja
                  subst hst' hja
                  exact hlook
                · exact HLK.out j a' l2 (by omega) hja hst'), Lib.hid hk3⟩
              case measure => (first | (simp [RowKit.intOf]; done) | (simp [RowKit.intOf]; omega))
            · by_cases hqc : q = cb
              · have HQC := Lib.hid hqc
                have hq2 : (q : Int) ≤ (cb : Int) := by omega
                have hmq : mb = q := by have := HLL.out.2.1; have := HMB.out; omega
                subst hqc
                go_wp2_with (
                  at_builtin
                  refine wpList_append_rd _ rfl (.tmp 49) (.tmp 51) _ rfl w.heap.size 34 i0 _ 4 48 Tryd.underlying29 hi0 hz0 hz1 hz2 rfl (by omega) _ cO k _ rfl hPb.own (some ⟨w4.heap.size + 1, 0, none⟩) 1 1 _ rfl hRd (one4 _ _ _ _ _ _) (by simp only [maxLen]; omega) (by omega) n3 ?_
                  intro O3 c3 w3 o3 hg3 hat3)
                have hlO := hPb.own.lt
                rw [ownBlock_slice] at hlO
                have hlO2 := HP.out.own.lt
                rw [ownBlock_slice] at hlO2
                have hAW := (hRS.keeps ((Keeps.refl (fun _ => False) w4).alloc (.cells #[.int .u64 (U : Int), .int .u64 (V : Int), .slice A' S.length c', .bool false] 34)) (fun _ _ h => h)).keeps ((Keeps.refl (fun _ => False) _).alloc (.cells #[.int .u64 (U : Int), .int .u64 (V : Int), .slice A' S.length c', .bool false] 34)) (fun _ _ h => h)
                have hP3 := hPb.app (g := ⟨U, V, S, false, A', c'⟩) hg3 hat3 o3 hAW (fun h0 i hi => by
                  obtain ⟨ad', e, hb', _⟩ := hAW.2 h0
                  have e2 : ad'.block = i := by
                    have h : ob A' = some i := hi
                    rw [e] at h
                    injection h
                  refine ⟨fun h => ?_, by rw [← e2]; exact hb'⟩
                  rcases hfS i hi with hA | hge
                  · exact hPb.farA i (by rw [← HLL.out.2.2.2]; exact hA) h
                  · have := (hlO2 i h).2; rw [World.size_alloc] at hge; omega) (fun i hi => Nat.lt_of_lt_of_le (HAL.out i hi) (Nat.le_trans HK.out.size Kb.size))
                have hk3 := (HK.out.trans Kb (fun _ _ h => h)).grown hg3 (fun i hi => .inr (hlO i hi).1)
                go_roundw
                case rel => exact ⟨k + 1, O3, c3, _, _, _, _, by omega, rfl, rfl, by go_num, Lib.hid hP3, Lib.hid (by rw [HSN.out, stepM_ok HST.out hgm, List.map_append, HV.out]; rfl), Lib.hid (fun l2 h => by rw [HSN.out, stepM_ok HST.out hgm] at h; injection h with h; subst h; exact ⟨⟨by rw [(show l' = [] from List.eq_nil_of_length_eq_zero (by have := HQ.out; have := HMB.out; omega))]; rfl, Nat.le_refl _, by rw [(show l' = [] from List.eq_nil_of_length_eq_zero (by have := HQ.out; have := HMB.out; omega))]; exact ⟨rfl, fun h => absurd h (by omega)⟩, HLL.out.2.2.2⟩, by have := HQ.out.2.1; have := HLL.out.1; omega⟩), Lib.hid (.inr ⟨_, by omega, by rw [List.getElem?_append_right (by rw [HP.out.len]; omega), HP.out.len]; simp; rfl, by rw [HSN.out, stepM_ok HST.out hgm]; rfl⟩), Lib.hid (fun j a' l2 hj hja hst' => by
                  by_cases hjk : j = k
                  · subst hjk
                    rw [HST.out] at hst'
                    injection hst' with hst'
                    rw [HAA.out] at hja
                    injection hja with hja
                    subst hst' hja
                    exact hlook
                  · exact HLK.out j a' l2 (by omega) hja hst'), Lib.hid hk3⟩
                case measure => (first | (simp [RowKit.intOf]; done) | (simp [RowKit.intOf]; omega))
              · have hq2 : (q : Int) ≤ (cb : Int) := by have := HLL.out.2.1; have := HMB.out; omega
                go_wp2_with (
                  at_builtin
                  refine wpList_append_rd _ rfl (.tmp 49) (.tmp 51) _ rfl w.heap.size 34 i0 _ 4 48 Tryd.underlying29 hi0 hz0 hz1 hz2 rfl (by omega) _ cO k _ rfl hPb.own (some ⟨w4.heap.size + 1, 0, none⟩) 1 1 _ rfl hRd (one4 _ _ _ _ _ _) (by simp only [maxLen]; omega) (by omega) n3 ?_
                  intro O3 c3 w3 o3 hg3 hat3)
                have hlO := hPb.own.lt
                rw [ownBlock_slice] at hlO
                have hlO2 := HP.out.own.lt
                rw [ownBlock_slice] at hlO2
                have hAW := (hRS.keeps ((Keeps.refl (fun _ => False) w4).alloc (.cells #[.int .u64 (U : Int), .int .u64 (V : Int), .slice A' S.length c', .bool false] 34)) (fun _ _ h => h)).keeps ((Keeps.refl (fun _ => False) _).alloc (.cells #[.int .u64 (U : Int), .int .u64 (V : Int), .slice A' S.length c', .bool false] 34)) (fun _ _ h => h)
                have hP3 := hPb.app (g := ⟨U, V, S, false, A', c'⟩) hg3 hat3 o3 hAW (fun h0 i hi => by
                  obtain ⟨ad', e, hb', _⟩ := hAW.2 h0
                  have e2 : ad'.block = i := by
                    have h : ob A' = some i := hi
                    rw [e] at h
                    injection h
                  refine ⟨fun h => ?_, by rw [← e2]; exact hb'⟩
                  rcases hfS i hi with hA | hge
                  · exact hPb.farA i (by rw [← HLL.out.2.2.2]; exact hA) h
                  · have := (hlO2 i h).2; rw [World.size_alloc] at hge; omega) (fun i hi => Nat.lt_of_lt_of_le (HAL.out i hi) (Nat.le_trans HK.out.size Kb.size))
                have hk3 := (HK.out.trans Kb (fun _ _ h => h)).grown hg3 (fun i hi => .inr (hlO i hi).1)
                go_roundw
                case rel => exact ⟨k + 1, O3, c3, _, _, _, _, by omega, rfl, rfl, by go_num, Lib.hid hP3, Lib.hid (by rw [HSN.out, stepM_ok HST.out hgm, List.map_append, HV.out]; rfl), Lib.hid (fun l2 h => by rw [HSN.out, stepM_ok HST.out hgm] at h; injection h with h; subst h; exact ⟨⟨by have := HQ.out; have := HMB.out; omega, by have := HQ.out; have := HMB.out; have := HLL.out.2.1; omega, by
                  have h1 := rd_drop HLL.out.2.2.1 (k := q) (by have := HQ.out; omega)
                  rw [← HMB.out, show l.drop q = l' by rw [HQ.out.1]; exact HQ.out.2.2.symm] at h1
                  exact (h1.keeps Kb (fun _ _ h => h)).keeps ((Keeps.refl (fun i => ob _ = some i) _).grown hg3 (fun i hi => .inl hi)) (fun i hi h => hPb.farA i (by rw [← HLL.out.2.2.2]; simpa [ob, blk_add] using hi) h), by rw [← HLL.out.2.2.2]; simp [ob, blk_add]⟩, by have := HQ.out.2.1; have := HLL.out.1; omega⟩), Lib.hid (.inr ⟨_, by omega, by rw [List.getElem?_append_right (by rw [HP.out.len]; omega), HP.out.len]; simp; rfl, by rw [HSN.out, stepM_ok HST.out hgm]; rfl⟩), Lib.hid (fun j a' l2 hj hja hst' => by
                  by_cases hjk : j = k
                  · subst hjk
                    rw [HST.out] at hst'
                    injection hst' with hst'
                    rw [HAA.out] at hja
                    injection hja with hja
                    subst hst' hja
                    exact hlook
                  · exact HLK.out j a' l2 (by omega) hja hst'), Lib.hid hk3⟩
                case measure => (first | (simp [RowKit.intOf]; done) | (simp [RowKit.intOf]; omega))
          · simp only [gotE]
            have Kb := ((HK1.out.trans K4 (fun _ _ h => h)).alloc (.cells #[.int .u64 0, .int .u64 0, .slice none 0 0, .bool true] 34)).alloc (.cells #[.int .u64 0, .int .u64 0, .slice none 0 0, .bool true] 34)
            have hPb := HP.out.new Kb
            have hRd := rd4new (w4.alloc (.cells #[.int .u64 0, .int .u64 0, .slice none 0 0, .bool true] 34)) 34 (.int .u64 0) (.int .u64 0) (.slice none 0 0) (.bool true)
            rw [World.size_alloc] at hRd
            have n3 : w.heap.size ≤ ((w4.alloc (.cells #[.int .u64 0, .int .u64 0, .slice none 0 0, .bool true] 34)).alloc (.cells #[.int .u64 0, .int .u64 0, .slice none 0 0, .bool true] 34)).heap.size := Nat.le_trans HK.out.size Kb.size
            go_wp2_with (
              at_builtin
              refine wpList_append_rd _ rfl (.tmp 49) (.tmp 51) _ rfl w.heap.size 34 i0 _ 4 48 Tryd.underlying29 hi0 hz0 hz1 hz2 rfl (by omega) _ cO k _ rfl hPb.own (some ⟨w4.heap.size + 1, 0, none⟩) 1 1 _ rfl hRd (one4 _ _ _ _ _ _) (by simp only [maxLen]; omega) (by omega) n3 ?_
              intro O3 c3 w3 o3 hg3 hat3)
            have hP3 := hPb.app (g := ⟨0, 0, [], true, none, 0⟩) hg3 hat3 o3 Rd.none' (fun h => absurd h (by simp)) (fun i hi => Nat.lt_of_lt_of_le (HAL.out i hi) (Nat.le_trans HK.out.size Kb.size))
            have hlO := hPb.own.lt
            rw [ownBlock_slice] at hlO
            have hk3 := (HK.out.trans Kb (fun _ _ h => h)).grown hg3 (fun i hi => .inr (hlO i hi).1)
            go_roundw
            case rel => exact ⟨k + 1, O3, c3, _, Ab, mb, cb, by omega, rfl, rfl, by go_num, Lib.hid hP3, Lib.hid (by rw [HSN.out, stepM_err HST.out hgm, List.map_append, HV.out]; rfl), Lib.hid (fun l h => by rw [HSN.out, stepM_err HST.out hgm] at h; cases h), Lib.hid (.inr ⟨_, by omega, by rw [List.getElem?_append_right (by rw [HP.out.len]; omega), HP.out.len]; simp; rfl, by rw [HSN.out, stepM_err HST.out hgm]; rfl⟩), Lib.hid (fun j a' l2 hj hja hst' => by
              by_cases hjk : j = k
              · subst hjk
                rw [HST.out] at hst'
                injection hst' with hst'
                rw [HAA.out] at hja
                injection hja with hja
                subst hst' hja
                exact hlook
              · exact HLK.out j a' l2 (by omega) hja hst'), Lib.hid hk3⟩
            case measure => (first | (simp [RowKit.intOf]; done) | (simp [RowKit.intOf]; omega))
    · go_wp2_with fail
      go_ret2
      have hkn : k = n := by omega
      subst hkn
      have hall : asks.take k = asks := List.take_of_length_le (by rw [HE.out.len]; exact Nat.le_refl _)
      have hv := HV.out
      rw [hall] at hv
      refine ⟨.inr ⟨fun j a l hj hst hh => HLK.out j a l (by have := (List.getElem?_eq_some_iff.1 hj).1; rw [HE.out.len] at this; exact this) hj hst hh, O, cO, gs, rfl, ⟨HP.out.len, Rd.own HP.out.own, HP.out.rd⟩, hv⟩, HK.out⟩
end Go.Proofs.YthfoleapdmpdfaaDoor
