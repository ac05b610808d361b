/- A column of maps of strings encoded. Conditions: sizes far below the machine's; the column lies below the buffer. -/
import Derived.Test.YtkgjchfbbpabpaaGreatMr
namespace Go.Proofs.YtkgjchfbbpabpaaGreat
open Go.RowKit Go.Lib
set_option linter.unusedVariables false
theorem ColAt.put {w w' : World} {b0 g c d base bb cx cx' : Nat} {A B X X' : Option Addr} {L : List (List UInt8)} {l l' : List UInt8} (h : ColAt w b0 g A c B d L) (hB : BufAt w base bb X cx l) (hlow : ∀ k, ColS g A B k → k < base) (hp : Put w w' base bb X X' cx' l') : ColAt w' b0 g A c B d L := by
  have hS : ∀ k, (k = bb ∨ ob X = some k) → base ≤ k := by
    rintro k (h1 | h1)
    · rw [h1]; exact hB.lo
    · exact (hB.row_lo k h1).1
  exact h.keeps hp.keeps (fun h1 => by have := hS _ h1; have := hlow _ (.inl rfl : ColS g A B g); omega) (fun k hk h1 => by have := hS _ h1; have := hlow k (.inr (.inl hk)); omega) (fun k hk h1 => by have := hS _ h1; have := hlow k (.inr (.inr hk)); omega)
theorem encCol (w : World) (b0 base g bb : Nat) (A : Option Addr) (c : Nat) (B : Option Addr) (d : Nat) (L : List (List UInt8)) (X : Option Addr) (cx : Nat) (l : List UInt8) (hC : ColAt w b0 g A c B d L) (hB : BufAt w base bb X cx l) (hlow : ∀ k, ColS g A B k → k < base) (hn : l.length + (encB L).length ≤ 1000000000) (hNN : L.flatten.length ≤ 1000000000) (hnn : L.length ≤ 1000000) :
    Calls Tryz.prog 163 #[.agg #[.slice A L.flatten.length c, .slice B L.length d], .pointer (some ⟨bb, 0, none⟩)] w fun e w' => StrRes w base bb X l L e w' := by
  have hf : ∀ (Y : Option Addr), (∀ k, ob Y = some k → ColS g A B k) → ∀ k, ob Y = some k → k ≠ bb ∧ ob X ≠ some k ∧ k < w.heap.size := fun Y hY k hk => by
    have h1 := hlow k (hY k hk)
    exact ⟨by have := hB.lo; omega, fun h => by have := (hB.row_lo k h).1; omega, (hC.inS (hY k hk)).2⟩
  exact encStr w base bb X cx l A B L.flatten.length L.length c d L hB rfl rfl (Rd.own hC.buf) (Rd.own hC.pos) (hf A fun k hk => .inr (.inl hk)) (hf B fun k hk => .inr (.inr hk)) (own_cap hC.pos).2.2 (own_cap hC.buf).1 (own_cap hC.buf).2.1 hn hNN hnn
set_option maxRecDepth 100000 in
theorem u64Rows (w : World) (O : Option Addr) (nO ko : Nat) :
    Calls Tryz.prog 150 #[.slice O nO ko] w fun e w' => e = .returned (.int .i64 nO) ∧ w = w' := by
  go_enter Tryz.func150, Tryz.ntmps150
  go_wp2_with fail
  go_ret
  exact ⟨rfl, rfl⟩
set_option maxRecDepth 100000 in
theorem mapRows (w : World) (O : Option Addr) (nO ko : Nat) (p q : Value) (hp : p.oneCell' = true) (hq : q.oneCell' = true) :
    Calls Tryz.prog 157 #[.agg #[.slice O nO ko, .iface 84 p, .iface 84 q]] w fun e w' => e = .returned (.int .i64 nO) ∧ Keeps (fun _ => False) w w' := by
  have HU := Lib.hid (fun w => u64Rows w O nO ko)
  go_enter Tryz.func157, Tryz.ntmps157
  go_wp2_with fail
  refine (HU.out _).mono ?_
  rintro e w2 ⟨rfl, rfl⟩
  go_wp2_with fail
  go_ret
  exact ⟨rfl, (Keeps.refl _ _).alloc _⟩
/-- The bytes of such a column. -/
def mpB (xs : List Nat) (KS VS : List (List UInt8)) : List UInt8 := u64s xs ++ encB KS ++ encB VS
def MapEnc (w : World) (base bb : Nat) (X : Option Addr) (l : List UInt8) (e : Ending) (w' : World) : Prop := ∃ A' c', e = .returned (.tuple #[]) ∧ Put w w' base bb X A' c' l

set_option maxRecDepth 100000 in
set_option maxHeartbeats 4000000 in
theorem encMap (w : World) (b0 base : Nat) (gm gk gv : Nat) (O : Option Addr) (ko nO : Nat) (A : Option Addr) (c : Nat) (B : Option Addr) (d : Nat) (A2 : Option Addr) (c2 : Nat) (B2 : Option Addr) (d2 : Nat) (KS VS : List (List UInt8)) (xs : List Nat) (bb : Nat) (X : Option Addr) (cx : Nat) (l : List UInt8) (hM : MapAt w b0 gm gk gv O ko nO A c B d A2 c2 B2 d2 KS VS (xs.map fun x : Nat => Value.int .u64 (x : Int))) (hB : BufAt w base bb X cx l) (hx : xs.length = nO) (h0 : 0 < nO)
    (hO : ∀ k, ob O = some k → k < base) (hK : ∀ k, ColS gk A B k → k < base) (hV : ∀ k, ColS gv A2 B2 k → k < base) (hn : l.length + (mpB xs KS VS).length ≤ 1000000) (hnO : nO ≤ 1000) (hk1 : KS.flatten.length ≤ 1000000) (hk2 : KS.length ≤ 100000) (hv1 : VS.flatten.length ≤ 1000000) (hv2 : VS.length ≤ 100000) :
    Calls Tryz.prog 154 #[.agg #[.slice O nO ko, .iface 84 (.pointer (some ⟨gk, 0, none⟩)), .iface 84 (.pointer (some ⟨gv, 0, none⟩))], .pointer (some ⟨bb, 0, none⟩)] w fun e w' => MapEnc w base bb X (l ++ mpB xs KS VS) e w' := by
  have hlt := hB.blk.lt
  have hXl : ∀ k, ob X = some k → k < w.heap.size := fun k hk => (hB.row_lo k hk).2
  have hu := u64s_length xs
  have hmb : (mpB xs KS VS).length = (u64s xs).length + (encB KS).length + (encB VS).length := by rw [mpB, List.length_append, List.length_append]
  have K0 := (Keeps.refl (fun _ => False) w).alloc (.cells #[.slice O nO ko, .iface 84 (.pointer (some ⟨gk, 0, none⟩)), .iface 84 (.pointer (some ⟨gv, 0, none⟩))] 188)
  have hbx := Whole.new w 188 #[.slice O nO ko, .iface 84 (.pointer (some ⟨gk, 0, none⟩)), .iface 84 (.pointer (some ⟨gv, 0, none⟩))]
  have HM := Lib.hid (hM.new K0)
  have HB := Lib.hid (hB.keeps K0 (fun h => h) (fun _ _ h => h))
  have HO := Lib.hid hO
  have HK := Lib.hid hK
  have HV := Lib.hid hV
  have HXL := Lib.hid hXl
  have HBX := Lib.hid hbx
  have HK0 := Lib.hid K0
  have HN := Lib.hid (show l.length + (u64s xs).length + (encB KS).length + (encB VS).length ≤ 1000000 by omega)
  have HR := Lib.hid (fun w => mapRows w O nO ko (.pointer (some ⟨gk, 0, none⟩)) (.pointer (some ⟨gv, 0, none⟩)) rfl rfl)
  have HKB := Lib.hid (And.intro hk1 hk2)
  have HVB := Lib.hid (And.intro hv1 hv2)
  have HX := Lib.hid hx
  have hne : ¬ (nO : Int) = 0 := by omega
  have hne2 : ¬ nO = 0 := by omega
  clear hM hB hO hK hV hXl hbx K0 hn hk1 hk2 hv1 hv2 hx hmb hu
  go_enter Tryz.func154, Tryz.ntmps154
  go_wp2_with fail
  generalize (w.alloc (.cells #[.slice O nO ko, .iface 84 (.pointer (some ⟨gk, 0, none⟩)), .iface 84 (.pointer (some ⟨gv, 0, none⟩))] 188)) = w1 at *
  refine (HR.out w1).mono ?_
  rintro e w2 ⟨rfl, K2⟩
  have hM2 := HM.out.new K2
  have hB2 := HB.out.keeps K2 (fun h => h) (fun _ _ h => h)
  have hbx2 := HBX.out.keeps K2 (fun h => h)
  have HU := Lib.hid (encU64 w2 base bb X cx l O nO ko xs hB2 (by have := HN.out; omega) HX.out (by omega) (Rd.own hM2.off) (fun k hk => by
    have h1 := HO.out k hk
    exact ⟨by have := hB2.lo; omega, fun h => by have := (hB2.row_lo k h).1; omega⟩))
  have b0c : w2.cell? ⟨w.heap.size, 0, none⟩ = some (.slice O nO ko) := hbx2.cell 0
  have HM2 := Lib.hid hM2
  have HB2 := Lib.hid hB2
  have HBX2 := Lib.hid hbx2
  have HK2 := Lib.hid (HK0.out.trans K2 (fun _ _ h => h))
  clear hM2 hB2 hbx2 K2
  go_wp2_with fail
  refine HU.out.mono ?_
  rintro e w3 ⟨X3, c3, rfl, hP3⟩
  have hbx3 := HBX2.out.keeps hP3.keeps (by
    rintro (h | h)
    · omega
    · have := HXL.out _ h; omega)
  have hk3 := HM2.out.key.put HB2.out HK.out hP3
  have hv3 := HM2.out.val.put HB2.out HV.out hP3
  have HS3 := Lib.hid (encCol w3 b0 base gk bb A c B d KS X3 c3 _ hk3 hP3.at' HK.out (by have := HN.out; rw [List.length_append]; omega) (by have := HKB.out.1; omega) (by have := HKB.out.2; omega))
  have hme : (method 454 84 (.pointer (some ⟨gk, 0, none⟩)) "EncodeColumn").run Tryz.prog w3 = .ok (163, .agg #[.slice A KS.flatten.length c, .slice B KS.length d]) w3 := mEnc hk3.blk _
  have b1c : w3.cell? ⟨w.heap.size, 1, none⟩ = some (.iface 84 (.pointer (some ⟨gk, 0, none⟩))) := hbx3.cell 1
  have HP3 := Lib.hid hP3
  have HBX3 := Lib.hid hbx3
  have HV3 := Lib.hid hv3
  clear hP3 hbx3 hk3 hv3 b0c
  generalize hF : KS.flatten.length = F at *
  generalize hG : KS.length = G at *
  clear hF hG
  go_wp2_with fail
  refine HS3.out.mono ?_
  rintro e w4 ⟨X4, c4, rfl, hP4⟩
  have hbx4 := HBX3.out.keeps hP4.keeps (by
    rintro (h | h)
    · omega
    · rcases HP3.out.row with hr | hr
      · rw [hr] at h; have := HXL.out _ h; omega
      · have h2 := hr _ h; have h3 := HBX2.out.lt; omega)
  have hv4 := HV3.out.put HP3.out.at' HV.out hP4
  have HS4 := Lib.hid (encCol w4 b0 base gv bb A2 c2 B2 d2 VS X4 c4 _ hv4 hP4.at' HV.out (by have := HN.out; rw [List.length_append, List.length_append]; omega) (by have := HVB.out.1; omega) (by have := HVB.out.2; omega))
  have hme2 : (method 454 84 (.pointer (some ⟨gv, 0, none⟩)) "EncodeColumn").run Tryz.prog w4 = .ok (163, .agg #[.slice A2 VS.flatten.length c2, .slice B2 VS.length d2]) w4 := mEnc hv4.blk _
  have b2c : w4.cell? ⟨w.heap.size, 2, none⟩ = some (.iface 84 (.pointer (some ⟨gv, 0, none⟩))) := hbx4.cell 2
  have HP4 := Lib.hid (HP3.out.trans hP4)
  clear hP4 hbx4 hv4 b1c hme
  generalize hF : VS.flatten.length = F2 at *
  generalize hG : VS.length = G2 at *
  clear hF hG
  go_wp2_with fail
  refine HS4.out.mono ?_
  rintro e w5 ⟨X5, c5, rfl, hP5⟩
  have HP5 := Lib.hid (HP4.out.trans hP5)
  clear hP5
  go_wp2_with fail
  go_end0
  have hfin := HP5.out
  rw [show l ++ u64s xs ++ encB KS ++ encB VS = l ++ mpB xs KS VS by rw [mpB]; simp] at hfin
  exact ⟨X5, c5, rfl, ⟨hfin.at', (HK2.out.mono (S' := fun k => k = bb ∨ ob X = some k) (fun _ _ h => h.elim)).trans hfin.keeps (fun _ _ h => h), hfin.row.imp id fun h k hk => Nat.le_trans HK2.out.size (h k hk)⟩⟩
end Go.Proofs.YtkgjchfbbpabpaaGreat
