/- A column of arrays of strings encoded into a buffer: where the rows end, and the strings. Conditions: sizes far below the machine's; the column lies below the buffer. -/
import Derived.Test.YtpbnhhfpbadhjaaGreatArr
import Derived.Test.YtpbnhhfpbadhjaaGreatU64
import Derived.Test.YtpbnhhfpbadhjaaGreatCe
namespace Go.Proofs.YtpbnhhfpbadhjaaGreat
open Go.RowKit Go.Lib
set_option linter.unusedVariables false
theorem infoME : (Tryz.prog.info? 56).map (fun i => (i.methods.find? (·.name == "EncodeColumn")).map (fun m => (m.path.toList.length, m.func))) = some (some (0, some (142, false))) := by kernel_rfl
theorem mEnc {w : World} {gs : Nat} {x y : Value} (hW : Whole w gs 59 #[x, y]) (fuel : Nat) : (method (fuel + 1) 56 (.pointer (some ⟨gs, 0, none⟩)) "EncodeColumn").run Tryz.prog w = .ok (142, .agg #[x, y]) w := by
  obtain ⟨i, m, h1, h2, h3, h4⟩ := method_row infoME
  exact method_val h1 h2 h3 h4 Tryz.underlying56 (run_loadVar_row (P := Tryz.prog) w gs 59 59 _ (0, 0) _ hW Tryz.underlying59 rfl infoCS)
/-- The bytes of such a column. -/
def arrB (RR : List (List ByteArray)) : List UInt8 := u64s (ends 0 (RR.map List.length)) ++ encB (RR.flatten.map sl)
def ArrEnc (w : World) (base bb : Nat) (X : Option Addr) (l : List UInt8) (RR : List (List ByteArray)) (e : Ending) (w' : World) : Prop := ∃ A' c', e = .returned (.tuple #[]) ∧ Put w w' base bb X A' c' (l ++ arrB RR)
theorem own_cap {w : World} {base n c s : Nat} {e : TypeId} {A : Option Addr} {xs : List Value} (h : w.ownsRow base e s (.slice A n c) n xs) : n ≤ c ∧ c ≤ maxLen ∧ (0 < n → ∃ g, A = some ⟨g, 0, none⟩) := by
  rcases h.2 with ⟨hv, h0⟩ | ⟨g, cap, cur, hv, hb, hg, h1, h2, h3, h4⟩
  · injection hv with hA hN hC
    subst hC h0
    exact ⟨Nat.le_refl _, Nat.zero_le _, fun h => absurd h (by omega)⟩
  · injection hv with hA hN hC
    subst hC hA
    exact ⟨h1, h2, fun _ => ⟨g, rfl⟩⟩

set_option maxRecDepth 100000 in
set_option maxHeartbeats 2000000 in
theorem encArr (w : World) (b0 base ga gs : Nat) (O : Option Addr) (ko : Nat) (A : Option Addr) (c : Nat) (B : Option Addr) (d : Nat) (RR : List (List ByteArray)) (bb : Nat) (X : Option Addr) (cx : Nat) (l : List UInt8) (hC : ArrAt w b0 ga gs O ko A c B d RR) (hB : BufAt w base bb X cx l)
    (hO : ∀ k, ob O = some k → k < base) (hA : ∀ k, ob A = some k → k < base) (hBb : ∀ k, ob B = some k → k < base) (hgs : gs < base)
    (hn : l.length + (arrB RR).length ≤ 1000000) (hRR : RR.length ≤ 1000) (hfl : (RR.flatten.map sl).flatten.length ≤ 1000000) (hfn : RR.flatten.length ≤ 100000) :
    Calls Tryz.prog 106 #[.agg #[.slice O RR.length ko, .iface 56 (.pointer (some ⟨gs, 0, none⟩))], .pointer (some ⟨bb, 0, none⟩)] w fun e w' => ArrEnc w base bb X l RR e w' := by
  have hlt := hB.blk.lt
  have hbase : base ≤ w.heap.size := by have := hB.lo; omega
  have hbl := hB.lo
  have HB := Lib.hid hB
  have HC := Lib.hid hC
  have HO := Lib.hid hO
  have HA := Lib.hid hA
  have HBB := Lib.hid hBb
  have HN := Lib.hid hn
  have HXl := Lib.hid hB.row_lo
  have hlen : (arrB RR).length = 8 * RR.length + (encB (RR.flatten.map sl)).length := by rw [arrB, List.length_append, u64s_length, ends_length, List.length_map]
  have HLN := Lib.hid hlen
  have HFL := Lib.hid hfl
  have HFN := Lib.hid hfn
  have HRR := Lib.hid hRR
  clear hC hB hO hA hBb hn hlen hfl hfn hRR
  have HU := Lib.hid (fun (w1 : World) (K : Keeps (fun _ => False) w w1) => encU64 w1 base bb X cx l O RR.length ko (ends 0 (RR.map List.length)) (HB.out.keeps K (fun h => h) (fun _ _ h => h)) (by have := HN.out; omega) (by rw [ends_length, List.length_map]) (by have := HRR.out; omega) (Rd.own (own_keeps HC.out.off K (fun _ _ h => h))) (fun k hk => by
    have h1 := HO.out k hk
    exact ⟨by omega, fun h => by have := (HXl.out k h).1; omega⟩))
  generalize RR.length = M at *
  go_enter Tryz.func106, Tryz.ntmps106
  go_wp2_with fail
  have K0 := (Keeps.refl (fun _ => False) w).alloc (.cells #[.slice O M ko, .iface 56 (.pointer (some ⟨gs, 0, none⟩))] 126)
  have hbx := Whole.new w 126 #[.slice O M ko, .iface 56 (.pointer (some ⟨gs, 0, none⟩))]
  have HU1 := HU.out _ K0
  clear HU
  generalize (w.alloc (.cells #[.slice O M ko, .iface 56 (.pointer (some ⟨gs, 0, none⟩))] 126)) = w1 at *
  refine HU1.mono ?_
  rintro e w2 ⟨X2, c2, rfl, hP⟩
  have hbx2 := hbx.keeps hP.keeps (by
    rintro (h | h)
    · omega
    · have := (HXl.out _ h).2
      omega)
  have hx1 : w2.cell? ⟨w.heap.size, 1, none⟩ = some (.iface 56 (.pointer (some ⟨gs, 0, none⟩))) := hbx2.cell 1
  have hlt2 := hbx2.lt
  have hcol : ColAt w2 b0 gs A c B d (RR.flatten.map sl) := (HC.out.col.new K0).keeps hP.keeps (by
    rintro (h | h)
    · omega
    · have := (HXl.out _ h).1
      omega) (fun k hk h => by
    have h1 := HA.out k hk
    rcases h with h | h
    · omega
    · have := (HXl.out _ h).1
      omega) (fun k hk h => by
    have h1 := HBB.out k hk
    rcases h with h | h
    · omega
    · have := (HXl.out _ h).1
      omega)
  have HK0 := Lib.hid K0
  have hbytes : Hid (l ++ u64s (ends 0 (RR.map List.length)) ++ encB (RR.flatten.map sl) = l ++ arrB RR) := Lib.hid (by rw [arrB, List.append_assoc])
  have hfn2 : (RR.flatten.map sl).length ≤ 100000 := by rw [List.length_map]; exact HFN.out
  have hfl2 := HFL.out
  have hbn : (l ++ u64s (ends 0 (RR.map List.length))).length + (encB (RR.flatten.map sl)).length ≤ 1000000000 := by
    have h1 := congrArg List.length hbytes.out
    have h2 := HN.out
    simp only [List.length_append] at h1 ⊢
    omega
  clear HFL HFN HLN
  generalize RR.flatten.map sl = Q at *
  generalize hF : Q.flatten.length = F at *
  generalize hG : Q.length = G at *
  have hbuf : w2.ownsRow b0 5 1 (.slice A F c) F (Lib.byteCells Q.flatten) := by have := hcol.buf; rw [hF] at this; exact this
  have hpo : w2.ownsRow b0 238 2 (.slice B G d) G (posCells 0 Q) := by have := hcol.pos; rw [hG] at this; exact this
  have hblk : Whole w2 gs 59 #[.slice A F c, .slice B G d] := by have := hcol.blk; rw [hF, hG] at this; exact this
  have hlow := hbuf.lt
  have hpow := hpo.lt
  rw [ownBlock_slice] at hlow hpow
  have HS := Lib.hid (encStr w2 base bb X2 c2 (l ++ u64s (ends 0 (RR.map List.length))) A B F G c d Q hP.at' hF hG (Rd.own hbuf) (Rd.own hpo) (fun k hk => by
    have h1 := HA.out k hk
    exact ⟨by omega, fun h => by have := (hP.at'.row_lo k h).1; omega, (hlow k hk).2⟩) (fun k hk => by
    have h1 := HBB.out k hk
    exact ⟨by omega, fun h => by have := (hP.at'.row_lo k h).1; omega, (hpow k hk).2⟩) (own_cap hpo).2.2 (own_cap hbuf).1 (own_cap hbuf).2.1 hbn (by omega) (by omega))
  have hme : (method 469 56 (.pointer (some ⟨gs, 0, none⟩)) "EncodeColumn").run Tryz.prog w2 = .ok (142, .agg #[.slice A F c, .slice B G d]) w2 := mEnc hblk _
  have HP := Lib.hid hP
  have HF := Lib.hid hF
  have HG := Lib.hid hG
  clear hP hcol hbx hbx2 HU1 K0 hbuf hpo hlow hpow hbn hF hG hfl2 hfn2 hblk
  go_wp2_with fail
  refine HS.out.mono ?_
  rintro e w3 ⟨X3, c3, rfl, hP3⟩
  have HP3 := Lib.hid (HP.out.trans hP3)
  clear hP3
  go_wp2_with fail
  go_end0
  have hfin := HP3.out
  rw [hbytes.out] at hfin
  exact ⟨X3, c3, rfl, ⟨hfin.at', (HK0.out.mono (S' := fun k => k = bb ∨ ob X = some k) (fun _ _ h => h.elim)).trans hfin.keeps (fun _ _ h => h), hfin.row.imp id fun h k hk => Nat.le_trans HK0.out.size (h k hk)⟩⟩
end Go.Proofs.YtpbnhhfpbadhjaaGreat
