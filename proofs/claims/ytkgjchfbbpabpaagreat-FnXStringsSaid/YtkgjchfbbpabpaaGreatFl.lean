/- Rows of texts laid flat, as bytes. Conditions: few rows of few texts. -/
import Derived.Test.YtkgjchfbbpabpaaGreatFew
import Derived.Test.YtkgjchfbbpabpaaGreatDk
import Derived.IntWalk
namespace Go.Proofs.YtkgjchfbbpabpaaGreat
open Go.RowKit Go.Lib
set_option linter.unusedVariables false
theorem infoRow4 : (Tryz.prog.info? 75).map (fun i => (i.zero, i.size, i.bytes)) = some (some (.agg #[.int .u64 0, .int .u64 0, .int .u64 0, .int .u64 0]), 4, 32) := by kernel_rfl
theorem rd_of4 (w : World) (t : TypeId) (a b c d : Value) : Rd (w.alloc (.cells #[a, b, c, d] t)) 4 (some ⟨w.heap.size, 0, none⟩) 1 [a, b, c, d] := by
  have hw := Whole.new w t #[a, b, c, d]
  exact ⟨rfl, fun _ => ⟨_, rfl, hw.lt, fun j x hx => by rw [add_lit', Nat.zero_add, hw.cell j, ← Array.getElem?_toList]; exact hx⟩⟩
theorem one_of4 (a b c d : Value) (ha : a.oneCell' = true) (hb : b.oneCell' = true) (hc : c.oneCell' = true) (hd : d.oneCell' = true) : ∀ u ∈ [a, b, c, d], u.oneCell' = true := by
  intro u hu
  rcases List.mem_cons.1 hu with rfl | hu
  · exact ha
  rcases List.mem_cons.1 hu with rfl | hu
  · exact hb
  rcases List.mem_cons.1 hu with rfl | hu
  · exact hc
  rw [List.mem_singleton.1 hu]; exact hd
/-- While rows are laid flat. -/
structure FlAt (w0 W : World) (V : Option Addr) (nv cv : Nat) (VV : List Value) (LB : List (List UInt8)) (E : Option Addr) (ne ce : Nat) (ES : List Value) : Prop where
  oV : W.ownsRow w0.heap.size 26 1 (.slice V nv cv) nv VV
  bV : BytesAt W VV LB
  oE : W.ownsRow w0.heap.size 75 4 (.slice E ne ce) ne ES
  kp : Keeps (fun _ => False) w0 W
section
variable {w0 W W' : World} {V E : Option Addr} {nv cv ne ce : Nat} {VV ES : List Value} {LB : List (List UInt8)}
theorem FlAt.new (h : FlAt w0 W V nv cv VV LB E ne ce ES) (hk : Keeps (fun _ => False) W W') : FlAt w0 W' V nv cv VV LB E ne ce ES :=
  ⟨own_keeps h.oV hk (fun _ _ h => h), h.bV.keeps hk (fun _ _ h => h), own_keeps h.oE hk (fun _ _ h => h), h.kp.trans hk (fun _ _ h => h)⟩
theorem FlAt.stepV {V' : Option Addr} {cv' b d n : Nat} {l : List UInt8} (h : FlAt w0 W V nv cv VV LB E ne ce ES) (hn : l.length = n) (hR : Rd W 1 (some ⟨b, 0, none⟩) l.length (Lib.byteCells l)) (hB : TBlk W 5 b) (hg : W.grownBy W' (ob V)) (ho : W'.ownsRow w0.heap.size 26 1 (.slice V' (nv + 1) cv') (nv + 1) (VV ++ [.slice (some ⟨b, 0, none⟩) n d])) : FlAt w0 W' V' (nv + 1) cv' (VV ++ [.slice (some ⟨b, 0, none⟩) n d]) (LB ++ [l]) E ne ce ES := by
  subst hn
  have Kp : Keeps (fun i => ob V = some i) W W' := (Keeps.refl _ W).grown hg (fun k hk => .inl hk)
  have hU : ∀ b, TBlk W 5 b → ¬ (ob V = some b) := fun b hb => own_ne h.oV hb (by decide)
  refine ⟨ho, (h.bV.keeps Kp hU).snoc (hR.keeps Kp (fun q hq => by simp [ob] at hq; subst hq; exact hU _ hB)) (hB.keeps Kp (hU _ hB)), own_keeps h.oE Kp (fun q hq => ?_), h.kp.grown hg (fun i hi => .inr (h.oV.lt i (by rw [ownBlock_slice]; exact hi)).1)⟩
  rw [ownBlock_slice] at hq
  exact own_ne h.oV (own_tblk h.oE q hq) (by decide)
theorem FlAt.stepE {E' : Option Addr} {ce' ne' : Nat} {ES' : List Value} (h : FlAt w0 W V nv cv VV LB E ne ce ES) (hg : W.grownBy W' (ob E)) (ho : W'.ownsRow w0.heap.size 75 4 (.slice E' ne' ce') ne' ES') : FlAt w0 W' V nv cv VV LB E' ne' ce' ES' := by
  have Kp : Keeps (fun i => ob E = some i) W W' := (Keeps.refl _ W).grown hg (fun k hk => .inl hk)
  refine ⟨own_keeps h.oV Kp (fun q hq => ?_), h.bV.keeps Kp (fun b hb => own_ne h.oE hb (by decide)), ho, h.kp.grown hg (fun i hi => .inr (h.oE.lt i (by rw [ownBlock_slice]; exact hi)).1)⟩
  rw [ownBlock_slice] at hq
  exact own_ne h.oE (own_tblk h.oV q hq) (by decide)
end
def flB (LL : List (List ByteArray)) : List (List UInt8) := LL.flatten.map sl
theorem flB_snoc {LL : List (List ByteArray)} {k : Nat} {X : List ByteArray} (h : LL[k]? = some X) : flB (LL.take k) ++ X.map sl = flB (LL.take (k + 1)) := by rw [List.take_add_one, h]; simp [flB]
theorem sl_snoc {X : List ByteArray} {k : Nat} {x : ByteArray} (LB : List (List UInt8)) (h : X[k]? = some x) : (LB ++ (X.take k).map sl) ++ [sl x] = LB ++ (X.take (k + 1)).map sl := by rw [List.take_add_one, h]; simp
def FlRes (w : World) (LB : List (List UInt8)) (e : Ending) (w' : World) : Prop := ∃ V nv cv VV E ne ce, e = .returned (.tuple #[.slice V nv cv, .slice E ne ce]) ∧ w'.ownsRow w.heap.size 26 1 (.slice V nv cv) nv VV ∧ BytesAt w' VV LB ∧ Keeps (fun _ => False) w w'

set_option maxRecDepth 100000 in
set_option maxHeartbeats 4000000 in
theorem wxFlat (w : World) (A : Option Addr) (n c : Nat) (LL : List (List ByteArray)) (hl : LL.length = n) (hR : RowsOf w A LL) (hF : FewP LL) :
    Calls Tryz.prog 17 #[.slice A n c] w fun e w' => FlRes w (flB LL) e w' := by
  obtain ⟨j0, hj0, hy0, hy1, hy2⟩ := info_parts infoBsE
  obtain ⟨r0, hr0, hx0, hx1, hx2⟩ := info_parts infoRow4
  have HR := Lib.hid hR
  have HL := Lib.hid hl
  have HFP := Lib.hid hF.2
  have hn20 : n ≤ 20 := by have := hF.1; omega
  clear hR hl hF
  go_enter Tryz.func17, Tryz.ntmps17
  go_wp2_with fail
  go_loopw [4, 5, 7, 9, 12] (fun v e _ _ i wr => ∃ (k : Nat) (V : Option Addr) (nv cv : Nat) (VV : List Value) (E : Option Addr) (ce : Nat) (ES : List Value), k ≤ n ∧ nv ≤ 12 * k ∧ i = .int .i64 k ∧ v = .slice V nv cv ∧ e = .slice E k ce ∧ FlAt w wr V nv cv VV (flB (LL.take k)) E k ce ES) (fun _ _ _ _ i _ => n - (RowKit.intOf i).toNat)
  case atStart => exact ⟨0, none, 0, 0, [], none, 0, [], Nat.zero_le _, Nat.zero_le _, rfl, rfl, rfl, ⟨World.ownsRow_nil _ _ _ _, BytesAt.nil _, World.ownsRow_nil _ _ _ _, Keeps.refl _ _⟩⟩
  case round =>
    obtain ⟨k, V, nv, cv, VV, E, ce, ES, hk, hnv, rfl, rfl, rfl, hA⟩ := hrel
    generalize hwo : wr = wo at *
    clear hwo
    have HA := Lib.hid hA
    clear hA
    by_cases hlt : k < n
    · obtain ⟨X, hX⟩ : ∃ X, LL[k]? = some X := ⟨_, List.getElem?_eq_getElem (by rw [HL.out]; exact hlt)⟩
      obtain ⟨ad, B, d, rfl, hlb, hcell0, hRd⟩ := HR.out.at' hX
      have hcell := cellK HA.out.kp hcell0
      clear hcell0
      have hmem := HFP.out X (List.mem_of_getElem? hX)
      have HT := Lib.hid (flB_snoc hX)
      have HRD := Lib.hid hRd
      have HX60 := Lib.hid hmem.2
      have hm12 := hmem.1
      generalize hmm : X.length = mm at *
      have HMM := Lib.hid hmm
      clear hX hRd hmem hmm
      go_wp2_with fail
      go_loopw [4, 9, 18] (fun v _ j wi => ∃ (q : Nat) (V : Option Addr) (nv cv : Nat) (VV : List Value), q ≤ mm ∧ nv ≤ 12 * k + q ∧ j = .int .i64 q ∧ v = .slice V nv cv ∧ FlAt w wi V nv cv VV (flB (LL.take k) ++ (X.take q).map sl) E k ce ES) (fun _ _ j _ => mm - (RowKit.intOf j).toNat)
      case atStart => exact ⟨0, V, nv, cv, VV, Nat.zero_le _, hnv, rfl, rfl, by simpa using HA.out⟩
      case round =>
        obtain ⟨q, V, nv, cv, VV, hq, hnv2, rfl, rfl, hB⟩ := hrel
        have HB := Lib.hid hB
        clear hB
        by_cases hlt2 : q < mm
        · obtain ⟨x, hx⟩ : ∃ x, X[q]? = some x := ⟨_, List.getElem?_eq_getElem (by rw [HMM.out]; exact hlt2)⟩
          obtain ⟨ad2, u, rfl, hb2, hu, hcell2⟩ := (HRD.out.keeps HB.out.kp (fun _ _ h => h)).at' hlt2
          have hu' : u = .string x := by
            rw [List.getElem?_map, hx] at hu
            injection hu with hu
            exact hu.symm
          subst hu'
          have HT2 := Lib.hid (sl_snoc (flB (LL.take k)) hx)
          clear hu hx
          obtain ⟨cp, cw, hcw⟩ := conv_bytes x
          have hcv : (convert 9 26 (.string x)).run Tryz.prog wr = .ok (.slice (some ⟨wr.heap.size, 0, none⟩) x.size (cp wr)) (cw wr) := (hcw wr).1
          have HCW := Lib.hid (hcw wr).2
          have Ka := HCW.out.1.alloc (.cells #[.slice (some ⟨wr.heap.size, 0, none⟩) x.size (cp wr)] 26)
          have hB2 := HB.out.new Ka
          have hrd := rd_one (cw wr) 26 (.slice (some ⟨wr.heap.size, 0, none⟩) x.size (cp wr))
          have hbr := HCW.out.2.2.1.keeps ((Keeps.refl (fun _ => False) (cw wr)).alloc (.cells #[.slice (some ⟨wr.heap.size, 0, none⟩) x.size (cp wr)] 26)) (fun _ _ h => h)
          have htb := HCW.out.2.2.2.keeps ((Keeps.refl (fun _ => False) (cw wr)).alloc (.cells #[.slice (some ⟨wr.heap.size, 0, none⟩) x.size (cp wr)] 26)) (fun h => h)
          clear hcw
          go_wp2_with (at_builtin
                       refine wpList_append_rd _ rfl (.tmp 22) (.tmp 25) _ rfl w.heap.size 26 j0 _ 1 24 Tryz.underlying33 hj0 hy0 hy1 hy2 rfl Nat.one_pos V cv nv _ rfl hB2.oV (some ⟨(cw wr).heap.size, 0, none⟩) 1 1 [.slice (some ⟨wr.heap.size, 0, none⟩) x.size (cp wr)] rfl hrd (one_val _ rfl) (by simp only [maxLen]; omega) (by omega) hB2.kp.size ?_
                       intro V3 cv3 w9 o9 hg9 hat9)
          have hB9 := hB2.stepV (sl_length x) hbr htb hg9 o9
          rw [HT2.out] at hB9
          have HB9 := Lib.hid hB9
          clear hB9 o9 hB2 hrd hbr htb Ka
          go_roundw
          case rel => exact ⟨q + 1, V3, nv + 1, cv3, _, by omega, by omega, by go_num, rfl, HB9.out⟩
          case measure => (first | (simp [RowKit.intOf]; done) | (simp [RowKit.intOf]; omega))
        · have hqm : q = mm := by omega
          subst hqm
          have hB := HB.out
          have eT : X.take q = X := List.take_of_length_le (by rw [HMM.out]; exact Nat.le_refl _)
          rw [eT, HT.out] at hB
          have hwr : IntKind.u64.wrap (nv : Int) = (nv : Int) := IntWalk.u64_in _ (by omega)
          have Ka := (Keeps.refl (fun _ => False) wr).alloc (.cells #[.int .u64 (nv : Int), .int .u64 0, .int .u64 0, .int .u64 0] 75)
          have hB2 := hB.new Ka
          have hrd := rd_of4 wr 75 (.int .u64 (nv : Int)) (.int .u64 0) (.int .u64 0) (.int .u64 0)
          clear hB Ka
          go_wp2_with (at_builtin
                       refine wpList_append_rd _ rfl (.tmp 28) (.tmp 33) _ rfl w.heap.size 75 r0 _ 4 32 Tryz.underlying43 hr0 hx0 hx1 hx2 rfl (by omega) E ce k _ rfl hB2.oE (some ⟨wr.heap.size, 0, none⟩) 1 1 [.int .u64 (nv : Int), .int .u64 0, .int .u64 0, .int .u64 0] rfl hrd (one_of4 _ _ _ _ rfl rfl rfl rfl) (by simp only [maxLen]; omega) (by omega) hB2.kp.size ?_
                       intro E3 ce3 w9 o9 hg9 hat9)
          have HB9 := Lib.hid (hB2.stepE hg9 o9)
          clear o9 hB2 hrd
          go_roundw
          case rel => exact ⟨k + 1, V, nv, cv, VV, E3, ce3, _, by omega, by omega, by go_num, rfl, rfl, HB9.out⟩
          case measure => (first | (simp [RowKit.intOf]; done) | (simp [RowKit.intOf]; omega))
    · have hkn : k = n := by omega
      subst hkn
      have hA := HA.out
      rw [List.take_of_length_le (by rw [HL.out]; exact Nat.le_refl _)] at hA
      have HA2 := Lib.hid hA
      clear hA
      go_wp2_with fail
      go_ret2
      exact ⟨V, nv, cv, VV, E, k, ce, rfl, HA2.out.oV, HA2.out.bV, HA2.out.kp⟩
end Go.Proofs.YtkgjchfbbpabpaaGreat
