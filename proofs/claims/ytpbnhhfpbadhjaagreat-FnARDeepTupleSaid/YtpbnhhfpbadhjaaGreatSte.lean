/- STEncode of a column of strings: rows of bytes appended, and the column encoded. Conditions: sizes far below the machine's. -/
import Derived.Test.YtpbnhhfpbadhjaaGreatTx
import Derived.Test.YtpbnhhfpbadhjaaGreatOpen
namespace Go.Proofs.YtpbnhhfpbadhjaaGreat
open Go.RowKit Go.Lib
set_option linter.unusedVariables false
theorem infoEmb : (Tryz.prog.info? 135).map (fun i => (i.methods.find? (·.name == "EncodeColumn")).map (fun m => (m.path.toList.map (fun s => (s.struct, s.index, s.deref)), m.func))) = some (some ([(135, 0, false)], none)) := by kernel_rfl
/-- A method of an interface that a struct embeds as its field 0. -/
theorem method_emb {P : Program} {fuel : Nat} {t u : TypeId} {name : String} {w : World} {cs : Array Value} {t' : TypeId} {v' : Value} {fs : Array Field} {fd : Field}
    (h : (P.info? t).map (fun i => (i.methods.find? (·.name == name)).map (fun m => (m.path.toList.map (fun s => (s.struct, s.index, s.deref)), m.func))) = some (some ([(u, 0, false)], none)))
    (hu : P.underlying u = some (.struct fs)) (hf : fs[0]? = some fd) (ho : fd.offset = 0) (hd : ∀ w : World, (isAgg fd.type).run P w = .ok false w) (hc : cs[0]? = some (.iface t' v')) :
    (method (fuel + 1) t (.agg cs) name).run P w = (method fuel t' v' name).run P w := by
  rw [Option.map_eq_some_iff] at h
  obtain ⟨i, h1, h2⟩ := h
  rw [Option.map_eq_some_iff] at h2
  obtain ⟨m, h3, h4⟩ := h2
  injection h4 with h4 h5
  obtain ⟨s, r, hp, hs⟩ : ∃ s r, m.path.toList = s :: r ∧ (s.struct, s.index, s.deref) = (u, 0, false) ∧ r = [] := by
    match hl : m.path.toList with
    | [] => rw [hl] at h4; simp at h4
    | s :: r =>
      rw [hl] at h4
      simp only [List.map_cons, List.cons.injEq, List.map_eq_nil_iff] at h4
      exact ⟨s, r, rfl, h4.1, h4.2⟩
  obtain ⟨hs, rfl⟩ := hs
  injection hs with hs1 hs
  injection hs with hs2 hs3
  conv => lhs; unfold method
  simp only [Sem.run_bind, run_typeInfo w h1, Result.andThen_ok, h3, hp, follow, hs1, hs2, hs3, run_underlying hu, hf, h5, part, hd, ho, hc, Sem.run_pure, Place.get, Bool.false_eq_true, if_false]
theorem mEncTx {w : World} {g : Nat} {x y : Value} (hW : Whole w g 59 #[x, y]) (fuel : Nat) : (method (fuel + 1 + 1) 135 (txV g) "EncodeColumn").run Tryz.prog w = .ok (142, .agg #[x, y]) w :=
  (method_emb infoEmb Tryz.underlying135 rfl rfl (fun w => by simp [isAgg, run_underlying Tryz.underlying101]) rfl).trans (mEnc hW fuel)
set_option maxRecDepth 100000 in
set_option maxHeartbeats 2000000 in
theorem encodedTx (w : World) (b0 g : Nat) (A : Option Addr) (c : Nat) (B : Option Addr) (d : Nat) (L : List (List UInt8)) (hC : ColAt w b0 g A c B d L)
    (hn : (encB L).length ≤ 1000000) (hNN : L.flatten.length ≤ 1000000) (hnn : L.length ≤ 100000) :
    Calls Tryz.prog 35 #[.func (.method "EncodeColumn") #[.iface 135 (txV g)] #[]] w fun e w' => EncRes w (encB L) e w' := by
  have K1 := (Keeps.refl (fun _ => False) w).alloc (.cells #[.slice none 0 0] 224)
  have hC1 := hC.new K1
  have hB1 := bufNew w (Nat.le_refl _)
  have hAA := hC.buf.lt
  have hBB := hC.pos.lt
  rw [ownBlock_slice] at hAA hBB
  have hAA1 := hC1.buf.lt
  have hBB1 := hC1.pos.lt
  rw [ownBlock_slice] at hAA1 hBB1
  have HE := Lib.hid (encStr _ w.heap.size w.heap.size none 0 [] A B L.flatten.length L.length c d L hB1 rfl rfl (Rd.own hC1.buf) (Rd.own hC1.pos) (fun k hk => ⟨by have := (hAA k hk).2; omega, fun h => (by cases h), (hAA1 k hk).2⟩) (fun k hk => ⟨by have := (hBB k hk).2; omega, fun h => (by cases h), (hBB1 k hk).2⟩) (own_cap hC1.pos).2.2 (own_cap hC1.buf).1 (own_cap hC1.buf).2.1 (by rw [List.length_nil, Nat.zero_add]; omega) (by omega) (by omega))
  have hme : (method 469 135 (txV g) "EncodeColumn").run Tryz.prog _ = .ok (142, .agg #[.slice A L.flatten.length c, .slice B L.length d]) _ := mEncTx hC1.blk _
  have HK := Lib.hid K1
  generalize hl : encB L = l at *
  generalize L.flatten.length = N at *
  generalize L.length = M at *
  have HLL := Lib.hid hl
  clear hl hC hC1 hB1 hAA hBB hAA1 hBB1 K1 hn hNN hnn
  generalize txV g = tv at *
  go_enter Tryz.func35, Tryz.ntmps35
  go_wp2_with fail
  refine HE.out.mono ?_
  rintro e w2 ⟨A2, c2, rfl, hP⟩
  rw [List.nil_append, HLL.out] at hP
  have hb := hP.at'
  have hc1 : w2.cell? ⟨w.heap.size, 0, none⟩ = some (.slice A2 l.length c2) := hb.blk.cell 0
  have HP := Lib.hid hP
  have HOW := Lib.hid hb.own
  clear hP hb
  go_wp2_with fail
  go_ret
  exact ⟨A2, c2, rfl, HOW.out, HK.out.trans HP.out.keeps (fun i hi h => by rcases h with rfl | h; (omega); cases h)⟩
theorem take_bytes {LB : List (List UInt8)} {k : Nat} {l : List UInt8} (h : LB[k]? = some l) : LB.take (k + 1) = LB.take k ++ [l] := by rw [List.take_add_one, h]; rfl
theorem encB_flat (L : List (List UInt8)) : L.flatten.length ≤ (encB L).length := by
  induction L with
  | nil => simp [encB]
  | cons l r ih =>
    rw [List.flatten_cons, List.length_append, encB, List.map_cons, List.flatten_cons, List.length_append, List.length_append, ← encB]
    omega

set_option maxRecDepth 100000 in
set_option maxHeartbeats 2000000 in
theorem stEncode0 (w : World) (A : Option Addr) (n c : Nat) (LB : List (List UInt8)) (hl : LB.length = n) (hR : RowsV w A (LB.map Lib.byteCells)) (hn : n ≤ 100000) (hx : ∀ l ∈ LB, l.length ≤ 1000000) (hb : (encB LB).length ≤ 1000000) :
    Calls Tryz.prog 14 #[.agg #[.int .i64 0, .int .i64 0], .slice A n c] w fun e w' => EncRes w (encB LB) e w' := by
  have K0 := (Keeps.refl (fun _ => False) w).alloc (.cells #[.int .i64 0, .int .i64 0] 41)
  have HR := Lib.hid hR
  have HL := Lib.hid hl
  have HX := Lib.hid hx
  have HB := Lib.hid hb
  have HCN := Lib.hid (column0 (w.alloc (.cells #[.int .i64 0, .int .i64 0] 41)))
  have HK0 := Lib.hid K0
  have hma := mAdd
  have HFL := Lib.hid (fun k => Nat.le_trans (show (LB.take k).flatten.length ≤ LB.flatten.length by have h := flat_le LB k; exact h) (encB_flat LB))
  clear hR hl hx hb K0
  go_enter Tryz.func14, Tryz.ntmps14
  go_wp2_with fail
  refine HCN.out.mono ?_
  rintro e w1 ⟨g, rfl, hC, K1⟩
  have HC := Lib.hid (⟨hC.blk, own_base_le hC.buf HK0.out.size, own_base_le hC.pos HK0.out.size, Nat.le_trans HK0.out.size hC.lo⟩ : ColAt w1 w.heap.size g none 0 none 0 [])
  have HK := Lib.hid (HK0.out.trans K1 (fun _ _ h => h))
  clear hC K1
  go_wp2_with fail
  go_loopw [7, 14] (fun _ i wr => ∃ (k : Nat) (A1 : Option Addr) (c1 : Nat) (B1 : Option Addr) (d1 : Nat), k ≤ n ∧ i = .int .i64 k ∧ ColAt wr w.heap.size g A1 c1 B1 d1 (LB.take k) ∧ Keeps (fun _ => False) w wr) (fun _ i _ => n - (RowKit.intOf i).toNat)
  case atStart => exact ⟨0, none, 0, none, 0, Nat.zero_le _, rfl, HC.out, HK.out⟩
  case round =>
    obtain ⟨k, A1, c1, B1, d1, hk, rfl, hP, hKr⟩ := hrel
    have HP := Lib.hid hP
    have HKr := Lib.hid hKr
    clear hP hKr
    by_cases hlt : k < n
    · obtain ⟨l, hL⟩ : ∃ l, LB[k]? = some l := ⟨_, List.getElem?_eq_getElem (by rw [HL.out]; exact hlt)⟩
      have HT := Lib.hid (take_bytes hL)
      obtain ⟨ad, Bv, dv, rfl, hlb, hcell, hRd⟩ := (RowsV.keeps HR.out HKr.out) k (Lib.byteCells l) (by rw [List.getElem?_map, hL]; rfl)
      rw [Lib.byteCells_length] at hcell hRd
      have HAP := Lib.hid (txAdd wr w.heap.size g A1 c1 B1 d1 (LB.take k) Bv l.length dv l HP.out hRd (by have := HFL.out k; have := HB.out; omega) (by rw [List.length_take]; omega) (HX.out l (List.mem_of_getElem? hL)))
      have hrows := Lib.hid HP.out.rowsLo
      have hlow := Lib.hid HP.out.lo
      clear hRd hL
      go_wp2_with fail
      refine HAP.out.mono ?_
      rintro e w2 ⟨A2, c2, B2, d2, rfl, hP2⟩
      have HP2 := Lib.hid hP2
      clear hP2
      go_wp2_with fail
      go_roundw
      case rel => exact ⟨k + 1, A2, c2, B2, d2, by omega, by go_num, by rw [HT.out]; exact HP2.out.at', HKr.out.trans HP2.out.keeps (fun i hi h => by
        rcases h with h | h | h
        · have := hlow.out; omega
        · have := (hrows.out.1 i h).1; omega
        · have := (hrows.out.2 i h).1; omega)⟩
      case measure => (first | (simp [RowKit.intOf]; done) | (simp [RowKit.intOf]; omega))
    · have hkn : k = n := by omega
      subst hkn
      have hfin := HP.out
      rw [List.take_of_length_le (by rw [HL.out]; exact Nat.le_refl _)] at hfin
      have HE := Lib.hid (encodedTx wr w.heap.size g A1 c1 B1 d1 LB hfin HB.out (by have := encB_flat LB; have := HB.out; omega) (by rw [HL.out]; exact hn))
      clear hfin
      go_wp2_with fail
      refine HE.out.mono ?_
      rintro e w2 ⟨A2, c2, rfl, ho, K2⟩
      go_wp2_with fail
      go_ret
      exact ⟨A2, c2, rfl, own_base_le ho HKr.out.size, HKr.out.trans K2 (fun _ _ h => h)⟩
end Go.Proofs.YtpbnhhfpbadhjaaGreat
