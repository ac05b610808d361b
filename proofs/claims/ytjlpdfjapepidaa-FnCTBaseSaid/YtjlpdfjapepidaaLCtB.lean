/- The walk of the law on the base of types. -/
import Derived.Test.YtjlpdfjapepidaaCtT
namespace Go.Proofs.Ytjlpdfjapepidaa
open Go.RowKit Go.Lib
set_option linter.unusedVariables false

set_option maxHeartbeats 400000 in
theorem isArr (w : World) (s : ByteArray) : Calls Try.prog 12 #[.string s] w fun e w' => e = .returned (.bool (Lib.hasPrefix s.data.toList [65, 114, 114, 97, 121])) ∧ w = w' := by
  have H := Lib.hid (fun w => Try.strings_HasPrefix s ⟨#[65, 114, 114, 97, 121]⟩ w)
  go_enter Try.func12, Try.ntmps12
  go_wp2_with (first | (go_at_call 18; go_in))
  refine (H.out _).mono ?_
  rintro e w1 ⟨rfl, rfl⟩
  go_wp2_with fail
  go_ret
  exact ⟨rfl, rfl⟩

theorem plains_noArr : plains.all (fun s => !Lib.hasPrefix s.data.toList [65, 114, 114, 97, 121]) = true := by decide
theorem plain_noArr {k : Nat} {s : ByteArray} (h : plains[k]? = some s) : Lib.hasPrefix s.data.toList [65, 114, 114, 97, 121] = false := by
  have := List.all_eq_true.1 plains_noArr s (List.mem_of_getElem? h)
  simpa using this
theorem ctS_noArr (xs : List ByteArray) : Lib.hasPrefix (ctS ⟨#[84, 117, 112, 108, 101]⟩ xs).data.toList [65, 114, 114, 97, 121] = false := by
  simp [ctS, Lib.hasPrefix, List.isPrefixOf]
theorem ctS_take (t : ByteArray) (xs : List ByteArray) : (ctS t xs).extract 0 t.size = t := ba_ext (by
  rw [ba_size, ByteArray.data_extract, Array.toList_extract]
  simp [ctS])
theorem ba_get (s : ByteArray) (j : Nat) (h : j < s.size) : s.data.toList[j]? = some s[j] := by
  rw [Array.getElem?_toList]
  exact Array.getElem?_eq_getElem h
theorem ctS_list (t : ByteArray) (xs : List ByteArray) : (ctS t xs).data.toList = t.data.toList ++ (40 : UInt8) :: (Lib.join (xs.map (fun x : ByteArray => x.data.toList)) [44, 32] ++ [41]) := by simp [ctS]
theorem ctS_first (t : ByteArray) (xs : List ByteArray) (j : Nat) (h : j < (ctS t xs).size) (hj : j < t.size) : (ctS t xs)[j] = t[j] := by
  have h1 := ba_get (ctS t xs) j h
  have h2 := ba_get t j hj
  rw [ctS_list, List.getElem?_append_left (by rw [← ba_size]; exact hj), h2] at h1
  injection h1 with h1
  exact h1.symm
theorem ctS_paren (t : ByteArray) (xs : List ByteArray) (j : Nat) (h : j < (ctS t xs).size) (hj : j = t.size) : (ctS t xs)[j] = 40 := by
  have h1 := ba_get (ctS t xs) j h
  rw [ctS_list, List.getElem?_append_right (by rw [← ba_size]; omega), ← ba_size, show j - t.size = 0 by omega] at h1
  injection h1 with h1
  exact h1.symm
theorem ctS_end (t : ByteArray) (xs : List ByteArray) (j : Nat) (h : j < (ctS t xs).size) (hj : j + 1 = (ctS t xs).size) : (ctS t xs)[j] = 41 := by
  have h1 := ba_get (ctS t xs) j h
  have e : (ctS t xs).data.toList = (t.data.toList ++ (40 : UInt8) :: Lib.join (xs.map (fun x : ByteArray => x.data.toList)) [44, 32]) ++ [41] := by simp [ctS]
  have hl : j = (t.data.toList ++ (40 : UInt8) :: Lib.join (xs.map (fun x : ByteArray => x.data.toList)) [44, 32]).length := by
    rw [ba_size, e, List.length_append, List.length_singleton] at hj
    omega
  rw [e, List.getElem?_append_right (by omega), show j - (t.data.toList ++ (40 : UInt8) :: Lib.join (xs.map (fun x : ByteArray => x.data.toList)) [44, 32]).length = 0 by omega] at h1
  injection h1 with h1
  exact h1.symm
theorem tup_no40 : ∀ j (h : j < 5), ¬ ((((⟨#[84, 117, 112, 108, 101]⟩ : ByteArray)[j]'h).toNat : Int) = 40) := by decide

set_option maxRecDepth 100000 in
set_option maxHeartbeats 4000000 in
theorem ctBaseYes (w : World) (wh : Int) (A : Option Addr) (n c : Nat) (hw0 : 0 ≤ wh) (hw1 : wh < 256) (hn : n ≤ 2147483647) (hc : n ≤ c) (hm : c ≤ maxLen) (hR : ByteRow w A n) :
    Calls Try.prog 4 #[.int .u8 wh, .slice A n c] w fun e w' => e = .returned (.bool true) ∧ Below w.heap.size w w' := by
  have K := (Keeps.refl (fun _ => False) w).alloc (.cells plainCells 9)
  have hk : (wh % 22).toNat < plains.length := by show _ < 22; omega
  obtain ⟨t, hpl⟩ : ∃ t, plains[(wh % 22).toNat]? = some t := ⟨_, List.getElem?_eq_getElem hk⟩
  have hp : plainCells[(wh % 22).toNat]? = some (.string t) := by rw [plainCells_get, hpl]; rfl
  obtain ⟨t0, t8, n40, n41⟩ := plain_of hpl
  have hna := plain_noArr hpl
  have CT := Lib.hid (ctType_any 2 (by omega) (w.alloc (.cells plainCells 9)) A c n hc hm (hR.keeps K))
  have HB := Lib.hid (fun w => base_plain w t (by omega) t0 n40 n41)
  have HIA := Lib.hid (fun w s => isArr w s)
  have HNA := Lib.hid hna
  have hb2 : bd 2 ≤ 1000 := bd_le 2 (by omega)
  generalize bd 2 = B2 at *
  have g1 : ¬ (2147483647 : Int) < (n : Int) := by omega
  clear hR hm hc hpl hk n40 n41 hna
  go_enter Try.func4, Try.ntmps4
  go_wp2_with (first | (go_at_call 6; refine (ctPlain _).mono ?_; rintro e w1 ⟨rfl, rfl⟩))
  refine CT.out.mono ?_
  rintro e w2 ⟨s, rfl, hs, K2⟩
  have K02 := K.trans K2 (fun _ _ h => h)
  have hxs : ∀ y ∈ [t, s], y.size ≤ 100000 := by
    intro y hy
    rcases List.mem_cons.1 hy with rfl | hy
    · omega
    · rw [List.mem_singleton.1 hy]; omega
  have HS := Lib.hid (ctSub (w2.alloc (.cells #[.string t, .string s] 9)) ⟨#[84, 117, 112, 108, 101]⟩ w2.heap.size 2 2 [t, s] rfl (srow2 w2 _ t s) (by omega) (by omega) (by decide) hxs)
  have hsz := ctS_two ⟨#[84, 117, 112, 108, 101]⟩ t s
  have h5 : (⟨#[84, 117, 112, 108, 101]⟩ : ByteArray).size = 5 := rfl
  rw [h5] at hsz
  have HP := Lib.hid (fun w => base_par w (ctS ⟨#[84, 117, 112, 108, 101]⟩ [t, s]) 5 ((ctS ⟨#[84, 117, 112, 108, 101]⟩ [t, s]).size - 1) (by omega) (by omega) (by omega) (by omega)
    (by rw [ctS_paren ⟨#[84, 117, 112, 108, 101]⟩ [t, s] 5 (by omega) h5.symm]; rfl)
    (fun j hj => by rw [ctS_first ⟨#[84, 117, 112, 108, 101]⟩ [t, s] j (by omega) (by rw [h5]; exact hj)]; exact tup_no40 j hj)
    (by rw [ctS_end ⟨#[84, 117, 112, 108, 101]⟩ [t, s] _ (by omega) (by omega)]; rfl) (fun j hj h => by omega))
  have HT := Lib.hid (ctS_take ⟨#[84, 117, 112, 108, 101]⟩ [t, s])
  have HNS := Lib.hid (ctS_noArr [t, s])
  clear hxs hsz h5
  generalize ctS ⟨#[84, 117, 112, 108, 101]⟩ [t, s] = S at *
  go_wp2_with fail
  refine HS.out.mono ?_
  rintro e w3 ⟨rfl, K3⟩
  have K03 := (K02.alloc (.cells #[.string t, .string s] 9)).trans K3 (fun _ _ h => h)
  go_wp2_with fail
  refine (HB.out _).mono ?_
  rintro e w4 ⟨rfl, rfl⟩
  go_wp2_with fail
  refine (HP.out _).mono ?_
  rintro e w4 ⟨he, rfl⟩
  rw [show S.extract 0 5 = ⟨#[84, 117, 112, 108, 101]⟩ from HT.out] at he
  subst he
  go_wp2_with fail
  refine (HIA.out _ t).mono ?_
  rintro e w4 ⟨he, rfl⟩
  rw [HNA.out] at he
  subst he
  go_wp2_with fail
  refine (HIA.out _ S).mono ?_
  rintro e w4 ⟨he, rfl⟩
  rw [HNS.out] at he
  subst he
  go_wp2_with fail
  go_ret
  exact ⟨rfl, K03.below (Nat.le_refl _) (fun _ h => h.elim)⟩

set_option maxRecDepth 100000 in
set_option maxHeartbeats 400000 in
theorem ctBaseBig (w : World) (wh : Int) (A : Option Addr) (n c : Nat) (hn : 2147483647 < n) :
    Calls Try.prog 4 #[.int .u8 wh, .slice A n c] w fun e w' => e = .returned (.bool true) ∧ Below w.heap.size w w' := by
  have g1 : (2147483647 : Int) < (n : Int) := by omega
  clear hn
  go_enter Try.func4, Try.ntmps4
  go_wp2_with fail
  go_ret
  exact ⟨rfl, Below.refl _ _⟩

theorem ctBaseWalk (w : World) (wh : Int) (A : Option Addr) (n c : Nat) (hw0 : 0 ≤ wh) (hw1 : wh < 256) (hc : n ≤ c) (hm : c ≤ maxLen) (l : List UInt8) (hl : l.length = n) (hR : Rd w 1 A n (Lib.byteCells l)) :
    Calls Try.prog 4 #[.int .u8 wh, .slice A n c] w fun e w' => e = .returned (.bool true) ∧ Below w.heap.size w w' := by
  by_cases hn : n ≤ 2147483647
  · exact ctBaseYes w wh A n c hw0 hw1 hn hc hm (ByteRow.rd hR hl)
  · exact ctBaseBig w wh A n c (by omega)
end Go.Proofs.Ytjlpdfjapepidaa
