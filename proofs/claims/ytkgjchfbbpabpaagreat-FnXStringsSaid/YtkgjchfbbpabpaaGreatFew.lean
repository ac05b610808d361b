/- The guard on rows of texts: few, and short ones. Conditions: what was read as data. -/
import Derived.Test.YtkgjchfbbpabpaaGreatOpen
import Derived.Test.YtkgjchfbbpabpaaGreatArL
namespace Go.Proofs.YtkgjchfbbpabpaaGreat
open Go.RowKit Go.Lib
set_option linter.unusedVariables false
theorem few1 (w : World) (s : ByteArray) :
    Calls Tryz.prog 33 #[.string s] w fun e w' => e = .returned (.bool (decide (60 < s.size))) ∧ w = w' := by
  by_cases h : 60 < s.size
  · have g : (60 : Int) < (s.size : Int) := by omega
    have hd : decide (60 < s.size) = true := decide_eq_true h
    rw [hd]
    clear hd
    go_enter Tryz.func33, Tryz.ntmps33
    go_wp2
    go_ret
    exact ⟨rfl, rfl⟩
  · have g : ¬ (60 : Int) < (s.size : Int) := by omega
    have hd : decide (60 < s.size) = false := decide_eq_false h
    rw [hd]
    clear hd
    go_enter Tryz.func33, Tryz.ntmps33
    go_wp2
    go_ret
    exact ⟨rfl, rfl⟩
def IdxRes (X : List ByteArray) (w : World) (e : Ending) (w' : World) : Prop := ∃ i : Int, e = .returned (.int .i64 i) ∧ (i < 0 → ∀ x ∈ X, x.size ≤ 60) ∧ (0 ≤ i ∨ i = -1) ∧ w = w'
set_option maxRecDepth 100000 in
set_option maxHeartbeats 1000000 in
theorem indexFew (w : World) (E : Option Addr) (n k0 : Nat) (X : List ByteArray) (hl : X.length = n) (hR : Rd w 1 E n (X.map Value.string)) (hn : n ≤ 9223372036854775807) :
    Calls Tryz.prog 62 #[.slice E n k0, .func (.func 33) #[] #[]] w fun e w' => IdxRes X w e w' := by
  have HR := Lib.hid hR
  have HL := Lib.hid hl
  have H1 := Lib.hid few1
  clear hR hl
  go_enter Tryz.func62, Tryz.ntmps62
  go_wp2_with fail
  go_loopw [8] (fun i wr => ∃ k : Nat, k ≤ n ∧ i = .int .i64 k ∧ (∀ x ∈ X.take k, x.size ≤ 60) ∧ w = wr) (fun i _ => n - (RowKit.intOf i).toNat)
  case atStart => exact ⟨0, Nat.zero_le _, rfl, fun x hx => by simp at hx, rfl⟩
  case round =>
    obtain ⟨k, hk, rfl, hs, rfl⟩ := hrel
    have HS := Lib.hid hs
    clear hs
    by_cases hlt : k < n
    · obtain ⟨x, hx⟩ : ∃ x, X[k]? = some x := ⟨_, List.getElem?_eq_getElem (by rw [HL.out]; exact hlt)⟩
      obtain ⟨ad, u, rfl, hb, hu, hcell⟩ := HR.out.at' hlt
      have hu' : u = .string x := by
        rw [List.getElem?_map, hx] at hu
        injection hu with hu
        exact hu.symm
      subst hu'
      have HT := Lib.hid (show X.take (k + 1) = X.take k ++ [x] by rw [List.take_add_one, hx]; rfl)
      have HX := Lib.hid (H1.out w x)
      clear hu hx
      by_cases h60 : 60 < x.size
      · rw [decide_eq_true h60] at HX
        clear h60
        go_wp2_with fail
        refine HX.out.mono ?_
        rintro e w2 ⟨rfl, rfl⟩
        go_wp2_with fail
        go_ret
        exact ⟨(k : Int), rfl, fun h => by omega, .inl (by omega), rfl⟩
      · rw [decide_eq_false h60] at HX
        have h60' := Lib.hid h60
        clear h60
        go_wp2_with fail
        refine HX.out.mono ?_
        rintro e w2 ⟨rfl, rfl⟩
        go_wp2_with fail
        go_roundw
        case rel => exact ⟨k + 1, by omega, by go_num, fun z hz => by
          rw [HT.out] at hz
          rcases List.mem_append.1 hz with h | h
          · exact HS.out z h
          · rw [List.mem_singleton.1 h]; have := h60'.out; omega, trivial⟩
        case measure => (first | (simp [RowKit.intOf]; done) | (simp [RowKit.intOf]; omega))
    · have hkn : k = n := by omega
      subst hkn
      go_wp2_with fail
      go_ret
      refine ⟨-1, rfl, fun _ x hx => HS.out x ?_, .inr rfl, rfl⟩
      rw [List.take_of_length_le (by rw [HL.out]; exact Nat.le_refl _)]
      exact hx
def HasRes (X : List ByteArray) (w : World) (e : Ending) (w' : World) : Prop := ∃ b, e = .returned (.bool b) ∧ (b = false → ∀ x ∈ X, x.size ≤ 60) ∧ w = w'
set_option maxRecDepth 100000 in
theorem hasFew (w : World) (E : Option Addr) (n k0 : Nat) (X : List ByteArray) (hl : X.length = n) (hR : Rd w 1 E n (X.map Value.string)) (hn : n ≤ 9223372036854775807) :
    Calls Tryz.prog 32 #[.slice E n k0, .func (.func 33) #[] #[]] w fun e w' => HasRes X w e w' := by
  have HI := Lib.hid (indexFew w E n k0 X hl hR hn)
  clear hl hR
  go_enter Tryz.func32, Tryz.ntmps32
  go_wp2_with fail
  refine HI.out.mono ?_
  rintro e w2 ⟨i, rfl, hi, hor, rfl⟩
  have HI2 := Lib.hid hi
  clear hi
  rcases hor with h | h
  · go_wp2_with fail
    go_ret
    exact ⟨true, rfl, fun h => (by cases h), rfl⟩
  · subst h
    go_wp2_with fail
    go_ret
    exact ⟨false, rfl, fun _ => HI2.out (by decide), rfl⟩
def FewP (LL : List (List ByteArray)) : Prop := LL.length ≤ 20 ∧ ∀ X ∈ LL, X.length ≤ 12 ∧ ∀ x ∈ X, x.size ≤ 60
def FewRes (LL : List (List ByteArray)) (w : World) (e : Ending) (w' : World) : Prop := ∃ b, e = .returned (.bool b) ∧ (b = true → FewP LL) ∧ w = w'
set_option maxRecDepth 100000 in
set_option maxHeartbeats 1000000 in
theorem wxFew (w : World) (A : Option Addr) (n c : Nat) (LL : List (List ByteArray)) (hl : LL.length = n) (hR : RowsOf w A LL) (hn : n ≤ 9223372036854775807) :
    Calls Tryz.prog 16 #[.slice A n c] w fun e w' => FewRes LL w e w' := by
  have HR := Lib.hid hR
  have HL := Lib.hid hl
  clear hR hl
  go_enter Tryz.func16, Tryz.ntmps16
  go_wp2_with fail
  go_loopw [4, 7] (fun _ i wr => ∃ k : Nat, k ≤ n ∧ i = .int .i64 k ∧ (∀ X ∈ LL.take k, X.length ≤ 12 ∧ ∀ x ∈ X, x.size ≤ 60) ∧ w = wr) (fun _ i _ => n - (RowKit.intOf i).toNat)
  case atStart => exact ⟨0, Nat.zero_le _, rfl, fun x hx => by simp at hx, rfl⟩
  case round =>
    obtain ⟨k, hk, rfl, hs, rfl⟩ := hrel
    have HS := Lib.hid hs
    clear hs
    by_cases hlt : k < n
    · obtain ⟨X, hX⟩ : ∃ X, LL[k]? = some X := ⟨_, List.getElem?_eq_getElem (by rw [HL.out]; exact hlt)⟩
      obtain ⟨ad, B, d, rfl, hlb, hcell, hRd⟩ := HR.out.at' hX
      have HT := Lib.hid (show LL.take (k + 1) = LL.take k ++ [X] by rw [List.take_add_one, hX]; rfl)
      have HF := Lib.hid (fun h => hasFew w B X.length d X rfl hRd h)
      clear hX hRd
      by_cases h12 : 12 < X.length
      · have g1 : (12 : Int) < (X.length : Int) := by omega
        go_wp2_with fail
        go_ret
        exact ⟨false, rfl, fun h => (by cases h), rfl⟩
      · have g1 : ¬ (12 : Int) < (X.length : Int) := by omega
        go_wp2_with fail
        refine (HF.out (by omega)).mono ?_
        rintro e w2 ⟨b, rfl, hb, rfl⟩
        have HB := Lib.hid hb
        clear hb
        cases b with
        | true =>
          go_wp2_with fail
          go_ret
          exact ⟨false, rfl, fun h => (by cases h), rfl⟩
        | false =>
          go_wp2_with fail
          go_roundw
          case rel => exact ⟨k + 1, by omega, by go_num, fun Z hZ => by
            rw [HT.out] at hZ
            rcases List.mem_append.1 hZ with h | h
            · exact HS.out Z h
            · rw [List.mem_singleton.1 h]; exact ⟨by omega, HB.out trivial⟩, trivial⟩
          case measure => (first | (simp [RowKit.intOf]; done) | (simp [RowKit.intOf]; omega))
    · have hkn : k = n := by omega
      subst hkn
      have hs := HS.out
      rw [List.take_of_length_le (by rw [HL.out]; exact Nat.le_refl _)] at hs
      have HS2 := Lib.hid hs
      clear hs
      by_cases h20 : k ≤ 20
      · have g2 : (k : Int) ≤ (20 : Int) := by omega
        go_wp2_with fail
        go_ret
        exact ⟨true, rfl, fun _ => ⟨by rw [HL.out]; exact h20, HS2.out⟩, rfl⟩
      · have g2 : ¬ (k : Int) ≤ (20 : Int) := by omega
        go_wp2_with fail
        go_ret
        exact ⟨false, rfl, fun h => (by cases h), rfl⟩
end Go.Proofs.YtkgjchfbbpabpaaGreat
