/- A tuple's type, the types of a row of columns, a column of bit planes. Conditions: each column's own answer. -/
import Derived.Test.YtpbnhhfpbadhjaaGreatTyD
import Derived.BigQuiet
namespace Go.Proofs.YtpbnhhfpbadhjaaGreat
open Go.RowKit Go.Lib
set_option linter.unusedVariables false
theorem iTyTu : (Tryz.prog.info? 70).map (fun i => (i.methods.find? (·.name == "Type")).map (fun m => (m.path.toList.length, m.func))) = some (some (0, some (190, false))) := by kernel_rfl
theorem fTyTu (args : Array Value) (w : World) : (callFunc 190 args).run Tryz.prog w = .ok (.enter 190 args) w := by kernel_rfl
theorem mTyTu (w : World) (v : Value) (fuel : Nat) : (method (fuel + 1) 70 v "Type").run Tryz.prog w = .ok (190, v) w := by
  obtain ⟨i, m, h1, h2, h3, h4⟩ := method_row iTyTu
  exact ty_val h1 h2 h3 h4 Tryz.underlying70
theorem take_snd {cols : List (Value × ByteArray)} {k : Nat} {c : Value × ByteArray} (h : cols[k]? = some c) : ((cols.take k).map Prod.snd).map Value.string ++ [.string c.2] = ((cols.take (k + 1)).map Prod.snd).map Value.string := by
  rw [List.take_add_one, h]; simp
theorem infoCTy : (Tryz.prog.info? 50).map (fun i => (i.zero, i.size, i.bytes)) = some (some (.string ⟨#[]⟩), 1, 16) := by kernel_rfl
theorem mem_snd {cols : List (Value × ByteArray)} (hx : ∀ c ∈ cols, c.2.size ≤ 100000) : ∀ x ∈ cols.map Prod.snd, x.size ≤ 100000 := by
  intro x h
  obtain ⟨c, hc, rfl⟩ := List.mem_map.1 h
  exact hx c hc
set_option maxRecDepth 100000 in
set_option maxHeartbeats 2000000 in
theorem tyTuple (w0 w : World) (U : Option Addr) (n k0 : Nat) (cols : List (Value × ByteArray)) (hl : cols.length = n) (hU : Rd w 1 U n (cols.map Prod.fst)) (hT : ∀ c ∈ cols, HasTy w c.1 c.2) (h0 : 0 < n) (hn : n ≤ 100) (hx : ∀ c ∈ cols, c.2.size ≤ 100000) :
    Calls Tryz.prog 190 #[.slice U n k0] w fun e w' => TyRes w (ctS ⟨#[84, 117, 112, 108, 101]⟩ (cols.map Prod.snd)) e w' := by
  obtain ⟨i0, hi0, hz0, hz1, hz2⟩ := info_parts infoCTy
  have HU := Lib.hid hU
  have HL := Lib.hid hl
  have HT := Lib.hid hT
  have HX := Lib.hid hx
  clear hU hl hT hx
  go_enter Tryz.func190, Tryz.ntmps190
  go_wp2_with fail
  go_loopw [3, 8] (fun v i wr => ∃ (k : Nat) (A : Option Addr) (c : Nat), k ≤ n ∧ i = .int .i64 k ∧ v = .slice A k c ∧ wr.ownsRow w.heap.size 50 1 (.slice A k c) k (((cols.take k).map Prod.snd).map Value.string) ∧ Keeps (fun _ => False) w wr) (fun _ i _ => n - (RowKit.intOf i).toNat)
  case atStart => exact ⟨0, none, 0, Nat.zero_le _, rfl, rfl, World.ownsRow_nil w w.heap.size 50 1, Keeps.refl _ _⟩
  case round =>
    obtain ⟨k, A, c1, hk, rfl, rfl, hown, hK⟩ := hrel
    by_cases hlt : k < n
    · obtain ⟨c, hc⟩ : ∃ c, cols[k]? = some c := ⟨_, List.getElem?_eq_getElem (by rw [HL.out]; exact hlt)⟩
      have HTK := Lib.hid (take_snd hc)
      obtain ⟨ad, u, rfl, hb, hu, hcell⟩ := (HU.out.keeps hK (fun _ _ h => h)).at' hlt
      have hu' : u = c.1 := by
        rw [List.getElem?_map, hc] at hu
        exact (Option.some.inj hu).symm
      subst hu'
      obtain ⟨T, p, f, recv, hv, hf, hR⟩ := HT.out c (List.mem_of_getElem? hc)
      obtain ⟨hme, hCa⟩ := hR wr hK
      have HCa := Lib.hid hCa
      have hmM : (method 469 T p "Type").run Tryz.prog wr = .ok (f, recv) wr := hme _
      rw [hv] at hcell
      have HK := Lib.hid hK
      have HO := Lib.hid hown
      clear hu hc hCa hme hR hK hown hv
      generalize c.2 = s at *
      go_wp2_with fail
      refine HCa.out.mono ?_
      rintro e w2 ⟨rfl, K2⟩
      have howna := own_keeps HO.out (K2.alloc (.cells #[.string s] 50)) (fun _ _ h => h)
      have hKa := (HK.out.trans K2 (fun _ _ h => h)).alloc (.cells #[.string s] 50)
      have hRd := Rd.whole (Whole.new w2 50 #[.string s]) rfl rfl
      go_wp2_with (
        at_builtin
        refine wpList_append_rd _ rfl (.tmp 12) (.tmp 15) _ rfl w.heap.size 50 i0 _ 1 16 Tryz.underlying290 hi0 hz0 hz1 hz2 rfl Nat.one_pos A c1 k _ rfl howna (some ⟨w2.heap.size, 0, none⟩) 1 1 [.string s] rfl hRd (one_str s) (by simp only [maxLen]; omega) (by omega) hKa.size ?_
        intro A2 c2 w3 hown2 hg2 hat2
        have hK2 := hKa.grown hg2 (fun i hi => .inr (howna.lt i (by rw [ownBlock_slice]; exact hi)).1)
        rw [HTK.out] at hown2)
      go_roundw
      case rel => exact ⟨k + 1, A2, c2, by omega, by go_num, rfl, hown2, hK2⟩
      case measure => (first | (simp [RowKit.intOf]; done) | (simp [RowKit.intOf]; omega))
    · have hkn : k = n := by omega
      subst hkn
      rw [List.take_of_length_le (by rw [HL.out]; exact Nat.le_refl _)] at hown
      have HOW := Lib.hid hown
      clear hown
      obtain ⟨g2, rfl, hb2, hS2, hc2⟩ := SRow.own HOW.out h0
      have HW := Lib.hid (ctSubM wr ⟨#[84, 117, 112, 108, 101]⟩ g2 c1 k (cols.map Prod.snd) (by rw [List.length_map]; exact HL.out) hS2 h0 hn (by decide) (mem_snd HX.out))
      clear HOW hS2
      go_wp2_with fail
      refine HW.out.mono ?_
      rintro e w3 ⟨rfl, K3⟩
      go_wp2_with fail
      go_ret
      exact ⟨rfl, hK.trans K3 (fun _ _ h => h)⟩
theorem hasTuple {w : World} {U : Option Addr} {n k0 : Nat} {cols : List (Value × ByteArray)} (hl : cols.length = n) (hU : Rd w 1 U n (cols.map Prod.fst)) (hT : ∀ c ∈ cols, HasTy w c.1 c.2) (h0 : 0 < n) (hn : n ≤ 100) (hx : ∀ c ∈ cols, c.2.size ≤ 100000) : HasTy w (.iface 70 (.slice U n k0)) (ctS ⟨#[84, 117, 112, 108, 101]⟩ (cols.map Prod.snd)) :=
  ⟨_, _, _, _, rfl, fTyTu, fun w2 K => ⟨mTyTu w2 _, tyTuple w w2 U n k0 cols hl (hU.keeps K (fun _ _ h => h)) (fun c hc => (hT c hc).keeps K) h0 hn hx⟩⟩
set_option maxRecDepth 100000 in
set_option maxHeartbeats 2000000 in
theorem tyTurned (w : World) (U : Option Addr) (n k0 : Nat) (cols : List (Value × ByteArray)) (hl : cols.length = n) (hU : Rd w 1 U n (cols.map Prod.fst)) (hT : ∀ c ∈ cols, HasTy w c.1 c.2) (hn : n ≤ 100) (hx : ∀ c ∈ cols, c.2.size ≤ 100000) :
    Calls Tryz.prog 25 #[.slice U n k0, .func (.func 26) #[] #[]] w fun e w' => ∃ A c, e = .returned (.slice A n c) ∧ w'.ownsRow w.heap.size 9 1 (.slice A n c) n ((cols.map Prod.snd).map Value.string) ∧ Keeps (fun _ => False) w w' := by
  obtain ⟨i0, hi0, hz0, hz1, hz2⟩ := info_parts infoStr
  have HU := Lib.hid hU
  have HL := Lib.hid hl
  have HT := Lib.hid hT
  have HX := Lib.hid hx
  clear hU hl hT hx
  go_enter Tryz.func25, Tryz.ntmps25
  go_wp2_with fail
  go_loopw [5, 10] (fun v i wr => ∃ (k : Nat) (A : Option Addr) (c : Nat), k ≤ n ∧ i = .int .i64 k ∧ v = .slice A k c ∧ wr.ownsRow w.heap.size 9 1 (.slice A k c) k (((cols.take k).map Prod.snd).map Value.string) ∧ Keeps (fun _ => False) w wr) (fun _ i _ => n - (RowKit.intOf i).toNat)
  case atStart => exact ⟨0, none, 0, Nat.zero_le _, rfl, rfl, World.ownsRow_nil w w.heap.size 9 1, Keeps.refl _ _⟩
  case round =>
    obtain ⟨k, A, c1, hk, rfl, rfl, hown, hK⟩ := hrel
    by_cases hlt : k < n
    · obtain ⟨c, hc⟩ : ∃ c, cols[k]? = some c := ⟨_, List.getElem?_eq_getElem (by rw [HL.out]; exact hlt)⟩
      have HTK := Lib.hid (take_snd hc)
      obtain ⟨ad, u, rfl, hb, hu, hcell⟩ := (HU.out.keeps hK (fun _ _ h => h)).at' hlt
      have hu' : u = c.1 := by
        rw [List.getElem?_map, hc] at hu
        exact (Option.some.inj hu).symm
      subst hu'
      obtain ⟨T, p, f, recv, hv, hf, hR⟩ := HT.out c (List.mem_of_getElem? hc)
      obtain ⟨hme, hCa⟩ := hR wr hK
      have HCa := Lib.hid hCa
      have hmM : (method 469 T p "Type").run Tryz.prog wr = .ok (f, recv) wr := hme _
      rw [hv] at hcell
      have HK := Lib.hid hK
      have HO := Lib.hid hown
      clear hu hc hCa hme hR hK hown hv
      generalize c.2 = s at *
      go_wp2_with (first | (go_at_call 26; go_in))
      refine HCa.out.mono ?_
      rintro e w2 ⟨rfl, K2⟩
      have howna := own_keeps HO.out (K2.alloc (.cells #[.string s] 9)) (fun _ _ h => h)
      have hKa := (HK.out.trans K2 (fun _ _ h => h)).alloc (.cells #[.string s] 9)
      have hRd := Rd.whole (Whole.new w2 9 #[.string s]) rfl rfl
      go_wp2_with (
        at_builtin
        refine wpList_append_rd _ rfl (.tmp 14) (.tmp 18) _ rfl w.heap.size 9 i0 _ 1 16 Tryz.underlying22 hi0 hz0 hz1 hz2 rfl Nat.one_pos A c1 k _ rfl howna (some ⟨w2.heap.size, 0, none⟩) 1 1 [.string s] rfl hRd (one_str s) (by simp only [maxLen]; omega) (by omega) hKa.size ?_
        intro A2 c2 w3 hown2 hg2 hat2
        have hK2 := hKa.grown hg2 (fun i hi => .inr (howna.lt i (by rw [ownBlock_slice]; exact hi)).1)
        rw [HTK.out] at hown2)
      go_roundw
      case rel => exact ⟨k + 1, A2, c2, by omega, by go_num, rfl, hown2, hK2⟩
      case measure => (first | (simp [RowKit.intOf]; done) | (simp [RowKit.intOf]; omega))
    · have hkn : k = n := by omega
      subst hkn
      rw [List.take_of_length_le (by rw [HL.out]; exact Nat.le_refl _)] at hown
      have HOW := Lib.hid hown
      clear hown
      go_wp2_with fail
      go_ret
      exact ⟨A, c1, rfl, HOW.out, hK⟩
end Go.Proofs.YtpbnhhfpbadhjaaGreat
