/- The walk of the law on parameters. -/
import Derived.Test.YtgnlfbekkddmiaaParGet
import Derived.Test.YtgnlfbekkddmiaaText
import Derived.Test.YtgnlfbekkddmiaaClone
import Derived.Test.YtgnlfbekkddmiaaCut
namespace Go.Proofs.Ytgnlfbekkddmiaa
open Go.RowKit Go.Lib
set_option linter.unusedVariables false

theorem key_full {k : ByteArray} (hk0 : k.size ≠ 0) : k.toList.isEmpty = false := by
  rw [ByteArray.toList_eq]
  cases h : k.data.toList with
  | nil => exact absurd (show k.size = 0 from by have := congrArg List.length h; simpa using this) hk0
  | cons a l => rfl

set_option maxRecDepth 100000 in
set_option maxHeartbeats 8000000 in
theorem parYes (w : World) (at_ nb cb : Nat) (hat : at_ < 65536) (k v : ByteArray) (hk : k.size ≤ 100) (hk0 : k.size ≠ 0) (hv : v.size ≤ 100) (AB : Option Addr) (lb : List UInt8) (hlb : lb.length = nb) (hRB : Rd w 1 AB nb (Lib.byteCells lb)) (hn9 : nb ≤ 9) :
    Calls Try.prog 3 #[.string k, .string v, .slice AB nb cb, .int .u16 at_] w fun e w' => e = .returned (.bool true) ∧ Below w.heap.size w w' := by
  obtain ⟨i0, hi0, hz0, hz1, hz2⟩ := info_parts infoU8
  have HSH := Lib.hid (fun w g t hW => pkShort2 w g t k v hW)
  have HP := Lib.hid (fun w => parPut w k v (by omega) (by omega))
  have HS := Lib.hid (fun w => setPut w k v (by omega) (by omega))
  have HG := Lib.hid (fun w A c => parGet_ok w A c k v (by omega) hk0 (by omega) lb _ rfl)
  have HX := Lib.hid (fun w A c m hm => parGet_err w A c k v (by omega) hk0 (by omega) _ m hm rfl)
  have hsh : decide (k.size ≤ 100 ∧ v.size ≤ 100) = true := decide_eq_true ⟨hk, hv⟩
  rw [hsh] at HSH
  clear hsh
  have hl0 : (strB k).length ≤ 200 := by have := Lib.uvarint_length64 (x := k.size) (by omega); rw [strB, List.length_append, sl_length]; omega
  have hl1 : (strB v).length ≤ 200 := by have := Lib.uvarint_length64 (x := v.size) (by omega); rw [strB, List.length_append, sl_length]; omega
  have hlv : (Lib.uvarint 2).length ≤ 10 := Lib.uvarint_length64 (x := 2) (by omega)
  have hl2 : 0 < (strB k).length := by rw [strB, List.length_append, sl_length]; omega
  have hg1 : ¬ (2147483647 : Int) < (k.size : Int) := by omega
  have hg2 : ¬ (2147483647 : Int) < (v.size : Int) := by omega
  have hg3 : ¬ (2147483647 : Int) < (nb : Int) := by omega
  have hg4 : ¬ (9 : Int) < (nb : Int) := by omega
  have hke := key_full hk0
  have hdd : ∃ d : List UInt8, d = strB k ++ (Lib.uvarint 2 ++ strB v) := ⟨_, rfl⟩
  obtain ⟨d, hd⟩ := hdd
  have hdl : d.length ≤ 410 ∧ 0 < d.length := by rw [hd]; simp only [List.length_append]; omega
  have hall : strB k ++ (Lib.uvarint 2 ++ (strB v ++ lb)) = d ++ lb := by rw [hd]; simp
  rw [hall] at HG
  rw [← hd] at HP HS HX
  clear hall hd
  generalize hnd : d.length = n at *
  have HND := Lib.hid hnd
  have HLB := Lib.hid hlb
  have HL1 := Lib.hid (show (d ++ lb).length = n + nb by rw [List.length_append, hnd, hlb])
  obtain ⟨hd1, hd2⟩ := hdl
  have hne : ((n : Int) == 0) = false := by simp; omega
  have hne2 : ¬ ((n : Int) = 0) := by omega
  clear hk hk0 hv hnd hlb
  have k0 := (Keeps.refl (fun _ => False) w).alloc (.cells #[.string k, .string v] 9)
  have hW0 := Whole.new w 9 #[.string k, .string v]
  go_enter Try.func3, Try.ntmps3
  go_wp2_with fail
  refine (HSH.out _ w.heap.size _ hW0).mono ?_
  rintro e wv ⟨rfl, rfl⟩
  go_wp2_with fail
  refine (HP.out _).mono ?_
  rintro e w1 ⟨A1, c1, rfl, hown1, hK1, hA1⟩
  have hK01 := k0.trans hK1 (fun _ _ h => h)
  have hcl := cloneB w1 A1 c1 d (by rw [HND.out]; exact Rd.own hown1) (by rw [HND.out]; omega)
  rw [HND.out] at hcl
  have HCL := Lib.hid hcl
  clear hcl
  go_wp2_with fail
  refine HCL.out.mono ?_
  clear HCL
  rintro e w2 ⟨A2, c2, rfl, hown2, hK2, hA2⟩
  have hK02 := hK01.trans hK2 (fun _ _ h => h)
  have hRB2 := hRB.keeps hK02 (fun _ _ h => h)
  go_wp2_with (first
    | (at_builtin
       refine wpList_append_rd _ rfl (.tmp 53) (.tmp 54) _ rfl w1.heap.size 5 i0 _ 1 1 Try.underlying22 hi0 hz0 hz1 hz2 rfl Nat.one_pos A2 c2 n _ rfl hown2 AB nb cb (Lib.byteCells lb) rfl hRB2 (byteCells_one _) (by simp only [maxLen]; omega) (by omega) hK2.size ?_
       intro A3 c3 w3 hown3 hg3 hat3
       have hK03 := hK02.grown hg3 (fun k hk => .inr (by have := hA2 k hk; have := hK01.size; omega))
       have hK13 := hK2.grown hg3 (fun k hk => .inr (by have := hA2 k hk; omega))
       have hget := HG.out w3 A3 c3
       rw [← Lib.byteCells_append] at hown3
       rw [HL1.out, HLB.out] at hget)
    | (go_at_call 7; refine (hget (Rd.own hown3) (own_cap hown3) (fun i hi => (hown3.lt i (by rw [ownBlock_slice]; exact hi)).2)).mono ?_; clear hget))
  rintro e w4 ⟨rfl, hK4⟩
  have hK04 := hK03.trans hK4 (fun _ _ h => h)
  have hown14 := own_keeps hown1 (hK13.trans hK4 (fun _ _ h => h)) (fun _ _ h => h)
  have hmn : at_ % n < n := Nat.mod_lt _ hd2
  have HCUT := Lib.hid (pkCut w4 A1 c1 n at_ hd2 (own_cap hown1) hat)
  go_wp2_with fail
  refine HCUT.out.mono ?_
  rintro e w5 ⟨rfl, rfl⟩
  have htk : (d.take (at_ % n)).length = at_ % n := by rw [List.length_take, HND.out]; omega
  have hx := HX.out w4 A1 c1 (at_ % n) hmn
  rw [htk] at hx
  have hx := Lib.hid (hx (by rw [← byteCells_take]; exact (Rd.own hown14).first (by omega)) (by have := own_cap hown1; omega) (fun i hi => (hown14.lt i (by rw [ownBlock_slice]; exact hi)).2))
  clear htk
  generalize at_ % n = mm at *
  go_wp2_with fail
  refine hx.out.mono ?_
  rintro e w6 ⟨rfl, hK6⟩
  have hK06 := hK04.trans hK6 (fun _ _ h => h)
  have hown16 := own_keeps hown14 hK6 (fun _ _ h => h)
  go_wp2_with fail
  refine (HS.out w6).mono ?_
  rintro e w7 ⟨A7, c7, rfl, hown7, hK7, hA7⟩
  have hown17 := own_keeps hown16 hK7 (fun _ _ h => h)
  have hK07 := hK06.trans hK7 (fun _ _ h => h)
  go_wp2_with (go_at_call 10; refine (bytesEq w7 A1 A7 n c1 n c7 d d (Rd.own hown17) (Rd.own hown7)).mono ?_; rintro e we ⟨he, rfl⟩; rw [decide_eq_true rfl] at he; subst he)
  go_ret
  exact ⟨rfl, hK07.below (Nat.le_refl _) (fun _ h => h.elim)⟩

set_option maxRecDepth 100000 in
set_option maxHeartbeats 1000000 in
theorem parE1 (w : World) (at_ nb cb : Nat) (k v : ByteArray) (AB : Option Addr)  (h1 : 2147483647 < k.size) :
    Calls Try.prog 3 #[.string k, .string v, .slice AB nb cb, .int .u16 at_] w fun e w' => e = .returned (.bool true) ∧ Below w.heap.size w w' := by
  have gh1 : (2147483647 : Int) < (k.size : Int) := by omega
  clear h1
  go_enter Try.func3, Try.ntmps3
  go_wp2_with fail
  go_ret
  exact ⟨rfl, Below.refl _ _⟩

set_option maxRecDepth 100000 in
set_option maxHeartbeats 1000000 in
theorem parE2 (w : World) (at_ nb cb : Nat) (k v : ByteArray) (AB : Option Addr) (h1 : ¬ 2147483647 < k.size) (h2 : 2147483647 < v.size) :
    Calls Try.prog 3 #[.string k, .string v, .slice AB nb cb, .int .u16 at_] w fun e w' => e = .returned (.bool true) ∧ Below w.heap.size w w' := by
  have gh1 : ¬ (2147483647 : Int) < (k.size : Int) := by omega
  clear h1
  have gh2 : (2147483647 : Int) < (v.size : Int) := by omega
  clear h2
  go_enter Try.func3, Try.ntmps3
  go_wp2_with fail
  go_ret
  exact ⟨rfl, Below.refl _ _⟩

set_option maxRecDepth 100000 in
set_option maxHeartbeats 1000000 in
theorem parE3 (w : World) (at_ nb cb : Nat) (k v : ByteArray) (AB : Option Addr) (h1 : ¬ 2147483647 < k.size) (h2 : ¬ 2147483647 < v.size) (h3 : 2147483647 < nb) :
    Calls Try.prog 3 #[.string k, .string v, .slice AB nb cb, .int .u16 at_] w fun e w' => e = .returned (.bool true) ∧ Below w.heap.size w w' := by
  have gh1 : ¬ (2147483647 : Int) < (k.size : Int) := by omega
  clear h1
  have gh2 : ¬ (2147483647 : Int) < (v.size : Int) := by omega
  clear h2
  have gh3 : (2147483647 : Int) < (nb : Int) := by omega
  clear h3
  go_enter Try.func3, Try.ntmps3
  go_wp2_with fail
  go_ret
  exact ⟨rfl, Below.refl _ _⟩

set_option maxRecDepth 100000 in
set_option maxHeartbeats 1000000 in
theorem parE4 (w : World) (at_ nb cb : Nat) (k v : ByteArray) (AB : Option Addr) (h1 : ¬ 2147483647 < k.size) (h2 : ¬ 2147483647 < v.size) (h3 : ¬ 2147483647 < nb) (h4 : ¬ (k.size ≤ 100 ∧ v.size ≤ 100)) :
    Calls Try.prog 3 #[.string k, .string v, .slice AB nb cb, .int .u16 at_] w fun e w' => e = .returned (.bool true) ∧ Below w.heap.size w w' := by
  have gh1 : ¬ (2147483647 : Int) < (k.size : Int) := by omega
  clear h1
  have gh2 : ¬ (2147483647 : Int) < (v.size : Int) := by omega
  clear h2
  have gh3 : ¬ (2147483647 : Int) < (nb : Int) := by omega
  clear h3
  have HSH := Lib.hid (fun w g t hW => pkShort2 w g t k v hW)
  have hsh : decide (k.size ≤ 100 ∧ v.size ≤ 100) = false := decide_eq_false h4
  rw [hsh] at HSH
  clear hsh h4
  have hW0 := Whole.new w 9 #[.string k, .string v]
  go_enter Try.func3, Try.ntmps3
  go_wp2_with fail
  refine (HSH.out _ w.heap.size _ hW0).mono ?_
  rintro e wv ⟨rfl, rfl⟩
  go_wp2_with fail
  go_ret
  exact ⟨rfl, (Below.refl _ _).alloc (Nat.le_refl _) _⟩

set_option maxRecDepth 100000 in
set_option maxHeartbeats 1000000 in
theorem parE5 (w : World) (at_ nb cb : Nat) (k v : ByteArray) (AB : Option Addr) (h1 : ¬ 2147483647 < k.size) (h2 : ¬ 2147483647 < v.size) (h3 : ¬ 2147483647 < nb) (h4 : k.size ≤ 100 ∧ v.size ≤ 100) (h5 : k.size = 0) :
    Calls Try.prog 3 #[.string k, .string v, .slice AB nb cb, .int .u16 at_] w fun e w' => e = .returned (.bool true) ∧ Below w.heap.size w w' := by
  have gh1 : ¬ (2147483647 : Int) < (k.size : Int) := by omega
  clear h1
  have gh2 : ¬ (2147483647 : Int) < (v.size : Int) := by omega
  clear h2
  have gh3 : ¬ (2147483647 : Int) < (nb : Int) := by omega
  clear h3
  have HSH := Lib.hid (fun w g t hW => pkShort2 w g t k v hW)
  have hsh : decide (k.size ≤ 100 ∧ v.size ≤ 100) = true := decide_eq_true h4
  rw [hsh] at HSH
  clear hsh h4
  have hW0 := Whole.new w 9 #[.string k, .string v]
  have hke : k.toList.isEmpty = true := by
    rw [ByteArray.toList_eq]
    have : k.data.toList.length = 0 := by simpa using h5
    rw [List.length_eq_zero_iff] at this; rw [this]; rfl
  clear h5
  go_enter Try.func3, Try.ntmps3
  go_wp2_with fail
  refine (HSH.out _ w.heap.size _ hW0).mono ?_
  rintro e wv ⟨rfl, rfl⟩
  go_wp2_with fail
  go_ret
  exact ⟨rfl, (Below.refl _ _).alloc (Nat.le_refl _) _⟩

set_option maxRecDepth 100000 in
set_option maxHeartbeats 1000000 in
theorem parE6 (w : World) (at_ nb cb : Nat) (k v : ByteArray) (AB : Option Addr) (h1 : ¬ 2147483647 < k.size) (h2 : ¬ 2147483647 < v.size) (h3 : ¬ 2147483647 < nb) (h4 : k.size ≤ 100 ∧ v.size ≤ 100) (h5 : k.size ≠ 0) (h6 : 9 < nb) :
    Calls Try.prog 3 #[.string k, .string v, .slice AB nb cb, .int .u16 at_] w fun e w' => e = .returned (.bool true) ∧ Below w.heap.size w w' := by
  have gh1 : ¬ (2147483647 : Int) < (k.size : Int) := by omega
  clear h1
  have gh2 : ¬ (2147483647 : Int) < (v.size : Int) := by omega
  clear h2
  have gh3 : ¬ (2147483647 : Int) < (nb : Int) := by omega
  clear h3
  have HSH := Lib.hid (fun w g t hW => pkShort2 w g t k v hW)
  have hsh : decide (k.size ≤ 100 ∧ v.size ≤ 100) = true := decide_eq_true h4
  rw [hsh] at HSH
  clear hsh h4
  have hW0 := Whole.new w 9 #[.string k, .string v]
  have hke := key_full h5
  have h6' : (9 : Int) < (nb : Int) := by omega
  clear h5 h6
  go_enter Try.func3, Try.ntmps3
  go_wp2_with fail
  refine (HSH.out _ w.heap.size _ hW0).mono ?_
  rintro e wv ⟨rfl, rfl⟩
  go_wp2_with fail
  go_ret
  exact ⟨rfl, (Below.refl _ _).alloc (Nat.le_refl _) _⟩

theorem parWalk (w : World) (at_ nb cb : Nat) (hat : at_ < 65536) (k v : ByteArray) (AB : Option Addr) (lb : List UInt8) (hlb : lb.length = nb) (hRB : Rd w 1 AB nb (Lib.byteCells lb)) :
    Calls Try.prog 3 #[.string k, .string v, .slice AB nb cb, .int .u16 at_] w fun e w' => e = .returned (.bool true) ∧ Below w.heap.size w w' := by
  by_cases h1 : 2147483647 < k.size
  · exact parE1 w at_ nb cb k v AB h1
  by_cases h2 : 2147483647 < v.size
  · exact parE2 w at_ nb cb k v AB h1 h2
  by_cases h3 : 2147483647 < nb
  · exact parE3 w at_ nb cb k v AB h1 h2 h3
  by_cases h4 : k.size ≤ 100 ∧ v.size ≤ 100
  · by_cases h5 : k.size = 0
    · exact parE5 w at_ nb cb k v AB h1 h2 h3 h4 h5
    by_cases h6 : 9 < nb
    · exact parE6 w at_ nb cb k v AB h1 h2 h3 h4 h5 h6
    exact parYes w at_ nb cb hat k v h4.1 h5 h4.2 AB lb hlb hRB (by omega)
  · exact parE4 w at_ nb cb k v AB h1 h2 h3 h4
end Go.Proofs.Ytgnlfbekkddmiaa
