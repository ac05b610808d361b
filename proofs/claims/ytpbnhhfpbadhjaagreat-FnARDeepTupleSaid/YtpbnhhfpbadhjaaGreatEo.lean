/- encodesOf: rows appended to a column of arrays of strings, which is encoded. -/
import Derived.Test.YtpbnhhfpbadhjaaGreatEs
import Derived.Test.YtpbnhhfpbadhjaaGreatOpen
namespace Go.Proofs.YtpbnhhfpbadhjaaGreat
open Go.RowKit Go.Lib
set_option linter.unusedVariables false
theorem infoMAp : (Tryz.prog.info? 51).map (fun i => (i.methods.find? (·.name == "Append")).map (fun m => (m.path.toList.length, m.func))) = some (some (0, some (105, true))) := by kernel_rfl
theorem mApp (w : World) (ga : Nat) (fuel : Nat) : (method (fuel + 1) 51 (.pointer (some ⟨ga, 0, none⟩)) "Append").run Tryz.prog w = .ok (105, .pointer (some ⟨ga, 0, none⟩)) w := by
  obtain ⟨i, m, h1, h2, h3, h4⟩ := method_row infoMAp
  exact method_ptr h1 h2 h3 h4 Tryz.underlying51
/-- All of a column's blocks lie at or above its base. -/
theorem ArrAt.low {w : World} {base ga gs ko c d : Nat} {O A B : Option Addr} {RR : List (List ByteArray)} (h : ArrAt w base ga gs O ko A c B d RR) : ∀ k, ArrS ga gs O A B k → base ≤ k := by
  have h1 := h.off.lt
  have h2 := h.col.rowsLo
  rw [ownBlock_slice] at h1
  rintro k (hk | hk | hk | hk | hk)
  · rw [hk]; exact h.lo
  · exact (h1 k hk).1
  · rw [hk]; exact h.col.lo
  · exact (h2.1 k hk).1
  · exact (h2.2 k hk).1

set_option maxRecDepth 100000 in
set_option maxHeartbeats 2000000 in
theorem encodesOfArr (wl w : World) (base ga gs : Nat) (E : Option Addr) (n k0 : Nat) (LL : List (List ByteArray)) (hK : Keeps (fun _ => False) wl w) (hb : wl.heap.size ≤ base) (hC : ArrAt w base ga gs none 0 none 0 none 0 []) (hl : LL.length = n) (hR : RowsOf wl E LL)
    (hx : ∀ L ∈ LL, ∀ x ∈ L, x.size ≤ 1000) (hf : LL.flatten.length ≤ 1000) (hn : n ≤ 1000) (hs : (LL.flatten.map sl).flatten.length ≤ 1000000) (ha : (arrB LL).length ≤ 1000000) :
    Calls Tryz.prog 29 #[.iface 51 (.pointer (some ⟨ga, 0, none⟩)), .slice E n k0] w fun e w' => ∃ w1, Keeps (fun _ => False) wl w1 ∧ EncOk w1 (arrB LL) e w' := by
  have HR := Lib.hid hR
  have HL := Lib.hid hl
  have HX := Lib.hid hx
  have HC := Lib.hid hC
  have HF := Lib.hid hf
  have HSS := Lib.hid hs
  have HA := Lib.hid ha
  have HK := Lib.hid hK
  clear hR hl hx hC hf hs ha hK
  go_enter Tryz.func29, Tryz.ntmps29
  go_wp2_with fail
  go_loopw [7, 10] (fun _ i wr => ∃ (k : Nat) (O : Option Addr) (ko : Nat) (A : Option Addr) (c : Nat) (B : Option Addr) (d : Nat), k ≤ n ∧ i = .int .i64 k ∧ ArrAt wr base ga gs O ko A c B d (LL.take k) ∧ Keeps (fun _ => False) wl wr) (fun _ i _ => n - (RowKit.intOf i).toNat)
  case atStart => exact ⟨0, none, 0, none, 0, none, 0, Nat.zero_le _, rfl, HC.out, HK.out⟩
  case round =>
    obtain ⟨k, O, ko, A, c, B, d, hk, rfl, hP, hKr⟩ := hrel
    have HP := Lib.hid hP
    have HKr := Lib.hid hKr
    clear hP hKr
    by_cases hlt : k < n
    · obtain ⟨L, hL⟩ : ∃ L, LL[k]? = some L := ⟨_, List.getElem?_eq_getElem (by rw [HL.out]; exact hlt)⟩
      have HT := Lib.hid (show LL.take (k + 1) = LL.take k ++ [L] by rw [List.take_add_one, hL]; rfl)
      obtain ⟨ad, Bv, dv, rfl, hlb, hcell, hRd⟩ := HR.out.at' hL
      have hcr : wr.cell? (ad.add k) = some (.slice Bv L.length dv) := (HKr.out.cell (by rw [blk_add]; exact hlb) (fun h => h)).trans hcell
      have hfk : (LL.take k).flatten.length ≤ 1000 := Nat.le_trans (flat_le LL k) HF.out
      have hLk : L.length ≤ 1000 := by
        have h1 := Nat.le_trans (flat_le LL (k + 1)) HF.out
        rw [HT.out, List.flatten_append, List.length_append] at h1
        simp at h1
        omega
      have hsk : ((LL.take k).flatten.map sl).flatten.length ≤ 10000000 := by
        have h1 := flat_map_sl [] ((LL.take k).flatten) (LL.take k).flatten.length (fun x hx => by
          obtain ⟨M, hM, hxM⟩ := List.mem_flatten.1 hx
          exact HX.out M (List.mem_of_mem_take hM) x hxM)
        rw [List.take_length, List.nil_append] at h1
        simp only [List.flatten_nil, List.length_nil, Nat.zero_add] at h1
        omega
      have HAP := Lib.hid (arrAppend wr base ga gs O ko A c B d (LL.take k) Bv L.length dv L HP.out hsk (by omega) (by rw [List.length_take]; omega) rfl (hRd.keeps HKr.out (fun _ _ h => h)) (fun h0 q hq hS => by
        have h1 := HP.out.low q hS
        obtain ⟨ad2, e, hb2, _⟩ := hRd.2 h0
        rw [e] at hq
        injection hq with hq
        have hq2 : ad2.block = q := hq
        omega) (HX.out L (List.mem_of_getElem? hL)) (by omega))
      have hme : (method 469 51 (.pointer (some ⟨ga, 0, none⟩)) "Append").run Tryz.prog wr = .ok (105, .pointer (some ⟨ga, 0, none⟩)) wr := mApp wr ga _
      have hlow := Lib.hid HP.out.low
      clear hRd hcell hL hfk hLk hsk
      go_wp2_with fail
      refine HAP.out.mono ?_
      rintro e w2 ⟨O2, k2, A2, c2, B2, d2, rfl, hP2⟩
      have HP2 := Lib.hid hP2
      clear hP2
      go_wp2_with fail
      go_roundw
      case rel => exact ⟨k + 1, O2, k2, A2, c2, B2, d2, by omega, by go_num, by rw [HT.out]; exact HP2.out.at', HKr.out.trans HP2.out.keeps (fun i hi h => by have := hlow.out i h; omega)⟩
      case measure => (first | (simp [RowKit.intOf]; done) | (simp [RowKit.intOf]; omega))
    · have hkn : k = n := by omega
      subst hkn
      have hfin := HP.out
      rw [List.take_of_length_le (by rw [HL.out]; exact Nat.le_refl _)] at hfin
      have HE := Lib.hid (encodesArr wr base ga gs O ko A c B d LL hfin HA.out (by rw [HL.out]; exact hn) HSS.out (by have := HF.out; omega))
      clear hfin
      go_wp2_with fail
      refine HE.out.mono ?_
      rintro e w2 ⟨A2, c2, b2, rfl, h1, h2, h3⟩
      go_wp2_with fail
      go_ret2
      exact ⟨wr, HKr.out, A2, c2, b2, rfl, h1, h2, h3⟩
end Go.Proofs.YtpbnhhfpbadhjaaGreat
