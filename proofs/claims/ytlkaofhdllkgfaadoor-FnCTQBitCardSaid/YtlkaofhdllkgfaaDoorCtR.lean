/- A number's decimal by the specification; a type of vectors parsed whole; FnCTQBit's walk. Conditions: the numbers' own sizes; what the table of spaces holds. -/
import Derived.Test.YtlkaofhdllkgfaaDoorCtQ
import Derived.Deep.RegionWith
import Derived.Deep.RegionLaw
namespace Go.Proofs.YtlkaofhdllkgfaaDoor
open Go.RowKit Go.Lib
set_option linter.unusedVariables false
def d10 (r : Nat) : UInt8 := UInt8.ofNat (48 + r)
theorem d10_nat {r : Nat} (h : r < 10) : (d10 r).toNat = 48 + r := by
  show (UInt8.ofNat (48 + r)).toNat = _
  rw [UInt8.toNat_ofNat']
  exact Nat.mod_eq_of_lt (by omega)
theorem convV {W : World} {b r : Nat} (hr : r < 10) (h : Rd W 1 (some ⟨b, 0, none⟩) 1 [.int .u8 (48 + (r : Int))]) : (convert 34 9 (.slice (some ⟨b, 0, none⟩) 1 1)).run Tryd.prog W = .ok (.string (sOf [d10 r])) W := by
  refine run_str_rd Tryd.underlying34 Tryd.underlying5 Tryd.underlying9 (l := [d10 r]) (n := 1) ?_
  have e : [Value.int .u8 (48 + (r : Int))] = Lib.byteCells [d10 r] := by simp [Lib.byteCells, d10_nat hr]
  rw [← e]
  exact h
set_option maxRecDepth 10000 in
theorem ctDec0 (w : World) (n : Nat) (h : n < 10) : Calls Tryd.prog 6 #[.int .i64 (n : Int)] w fun e w' => e = .returned (.string (sOf [d10 n])) ∧ Keeps (fun _ => False) w w' := by
  have e4 : IntKind.i64.wrap (48 + (n : Int)) = 48 + n := by apply wrapI <;> omega
  have e5 : IntKind.u8.wrap (48 + (n : Int)) = 48 + n := by rw [IntKind.wrap_u8]; omega
  have hcv := convV h (rd_one w 5 (.int .u8 (48 + (n : Int))))
  have hlt : (n : Int) < 10 := by omega
  have K := Lib.hid ((Keeps.refl (fun _ => False) w).alloc (.cells #[.int .u8 (48 + (n : Int))] 5))
  go_enter Tryd.func6, Tryd.ntmps6
  go_wp2_with fail
  go_ret
  exact ⟨rfl, K.out⟩
set_option maxRecDepth 10000 in
set_option maxHeartbeats 1600000 in
theorem ctDec1 (w : World) (n q r : Nat) (s t : ByteArray) (hn : n < 1000000) (h10 : 10 ≤ n) (hq : Int.tdiv (n : Int) 10 = (q : Int)) (hr : Int.tmod (n : Int) 10 = (r : Int)) (hr10 : r < 10) (hq1 : q < 1000000) (happ : s ++ sOf [d10 r] = t) (hsz : s.size ≤ 10)
    (IH : Hid (∀ w, Calls Tryd.prog 6 #[.int .i64 (q : Int)] w fun e w' => e = .returned (.string s) ∧ Keeps (fun _ => False) w w')) :
    Calls Tryd.prog 6 #[.int .i64 (n : Int)] w fun e w' => e = .returned (.string t) ∧ Keeps (fun _ => False) w w' := by
  have e3 : IntKind.i64.wrap (q : Int) = q := by apply wrapI <;> omega
  have e2 : IntKind.i64.wrap (r : Int) = r := by apply wrapI <;> omega
  have e4 : IntKind.i64.wrap (48 + (r : Int)) = 48 + r := by apply wrapI <;> omega
  have e5 : IntKind.u8.wrap (48 + (r : Int)) = 48 + r := by rw [IntKind.wrap_u8]; omega
  have hz1 : (sOf [d10 r]).size = 1 := by rw [sOf_size]; rfl
  have hcv := convV hr10 (rd_one w 5 (.int .u8 (48 + (r : Int)))).drew
  have hge : ¬ ((n : Int) < 10) := by omega
  have HR := Lib.hid hr10
  have K00 := Lib.hid (((Keeps.refl (fun _ => False) w).alloc (.cells #[.int .u8 (48 + (r : Int))] 5)).drew)
  clear hr10 hn h10
  go_enter Tryd.func6, Tryd.ntmps6
  go_wp2_with fail
  go_region_with (go_at_call 6; refine (IH.out _).mono ?_; rintro e w1 ⟨rfl, K1⟩; have hcA := convV HR.out (rd_one w1 5 (.int .u8 (48 + (r : Int)))); (try have hcB := convV HR.out (((rd_one w 5 (.int .u8 (48 + (r : Int)))).drew).keeps K1 (fun _ _ h => h))); (try have K2 := K00.out.trans K1 (fun _ _ h => h)); (try have K3 := ((Keeps.refl (fun _ => False) w).drew.trans K1 (fun _ _ h => h)).alloc (.cells #[.int .u8 (48 + (r : Int))] 5)))
  all_goals
    go_wp2_with fail
    go_ret
    first
    | exact ⟨rfl, K2⟩
    | exact ⟨rfl, K3⟩
theorem decFrom_app : ∀ (a b : List UInt8) (acc : Nat), Lib.decFrom acc (a ++ b) = (Lib.decFrom acc a).bind fun x => Lib.decFrom x b
  | [], b, acc => rfl
  | c :: a, b, acc => by
    simp only [List.cons_append, Lib.decFrom]
    cases Lib.digitVal c with
    | none => rfl
    | some d => exact decFrom_app a b _
theorem digitVal_d10 {k : Nat} (h : k < 10) : Lib.digitVal (d10 k) = some k := by
  rw [Lib.digitVal, d10_nat h, if_pos ⟨by omega, by omega⟩]
  congr 1
  omega
def DecOk (n k : Nat) (D : List UInt8) : Prop := 0 < D.length ∧ D.length ≤ k ∧ (∀ x ∈ D, 48 ≤ x.toNat ∧ x.toNat ≤ 57) ∧ Lib.decFrom 0 D = some n ∧ ∀ w, Calls Tryd.prog 6 #[.int .i64 (n : Int)] w fun e w' => e = .returned (.string (sOf D)) ∧ Keeps (fun _ => False) w w'
theorem decOk_small (n k : Nat) (h : n < 10) (hk : 0 < k) : DecOk n k [d10 n] := by
  refine ⟨by simp, by simp; omega, ?_, ?_, fun w => ctDec0 w n h⟩
  · intro x hx
    rw [List.mem_singleton.1 hx, d10_nat h]
    omega
  · simp [Lib.decFrom, digitVal_d10 h]
theorem decOk : ∀ (k n : Nat), k ≤ 4 → n < 10 ^ (k + 1) → ∃ D, DecOk n (k + 1) D
  | 0, n, _, h => ⟨_, decOk_small n 1 (by simpa using h) (by omega)⟩
  | k + 1, n, hk, h => by
    by_cases h10 : n < 10
    · exact ⟨_, decOk_small n _ h10 (by omega)⟩
    · have hq : n / 10 < 10 ^ (k + 1) := by rw [Nat.div_lt_iff_lt_mul (by omega)]; rwa [Nat.pow_succ] at h
      obtain ⟨D, h1, h2, h3, h4, h5⟩ := decOk k (n / 10) (by omega) hq
      have hbig : n < 1000000 := Nat.lt_of_lt_of_le h (Nat.le_trans (Nat.pow_le_pow_right (by omega) (show k + 1 + 1 ≤ 6 by omega)) (by decide))
      have hr : n % 10 < 10 := Nat.mod_lt _ (by omega)
      refine ⟨D ++ [d10 (n % 10)], by simp, by simp; omega, ?_, ?_, fun w => ctDec1 w n (n / 10) (n % 10) (sOf D) _ hbig (by omega) (by rw [Int.tdiv_eq_ediv_of_nonneg (by omega)]; omega) (by rw [Int.tmod_eq_emod_of_nonneg (by omega)]; omega) hr (by omega) (sOf_app _ _) (by rw [sOf_size]; omega) (Lib.hid h5)⟩
      · intro x hx
        rcases List.mem_append.1 hx with hx | hx
        · exact h3 x hx
        · rw [List.mem_singleton.1 hx, d10_nat hr]
          omega
      · rw [decFrom_app, h4, Option.bind_some, Lib.decFrom, digitVal_d10 hr]
        simp only [Lib.decFrom]
        congr 1
        omega
theorem atoi_digs (l : List UInt8) (v : Nat) (h0 : 0 < l.length) (hl : l.length ≤ 18) (hd : ∀ x ∈ l, 48 ≤ x.toNat ∧ x.toNat ≤ 57) (h : Lib.decFrom 0 l = some v) : Lib.atoiAll l = .ok (v : Int) := by
  rw [Lib.atoiAll_short l hl]
  cases l with
  | nil => simp at h0
  | cons b r =>
    have hb := hd b (List.mem_cons_self ..)
    have n1 : (b == 45) = false := by
      cases hq : (b == 45) with
      | false => rfl
      | true => have := eq_of_beq hq; subst this; exact absurd hb.1 (by decide)
    have n2 : (b == 43) = false := by
      cases hq : (b == 43) with
      | false => rfl
      | true => have := eq_of_beq hq; subst this; exact absurd hb.1 (by decide)
    rw [Lib.atoi]
    simp only [n1, n2, Bool.false_eq_true, if_false]
    rw [Lib.decNat]
    simp only [List.isEmpty_cons, Bool.false_eq_true, if_false, h]
    rfl
theorem keeps_bytes {w w' : World} {u : TypeId} (h : w' = w ∨ ∃ t, w' = Lib.bytesWorld w u t) : Keeps (fun _ => False) w w' := by
  rcases h with rfl | ⟨t, rfl⟩
  · exact Keeps.refl _ _
  · exact Keeps.of_below (Lib.bytesWorld_below _ _ _) _
def Ret (f : FuncId) (args : Array Value) (v : Value) : Prop := ∀ w, Calls Tryd.prog f args w fun e w' => e = .returned v ∧ Keeps (fun _ => False) w w'
theorem ret_atoi (l : List UInt8) (v : Nat) (h0 : 0 < l.length) (hl : l.length ≤ 18) (hd : ∀ x ∈ l, 48 ≤ x.toNat ∧ x.toNat ≤ 57) (h : Lib.decFrom 0 l = some v) : Ret 13 #[.string (sOf l)] (.tuple #[.int .i64 (v : Int), .nilIface]) := fun w =>
  (Tryd.strconv_Atoi_ok (sOf l) (by rw [sOf_size]; omega) v (by simpa using atoi_digs l v h0 hl hd h) w).mono fun e w' h => ⟨h.1, keeps_bytes h.2⟩
def SpaceV (w : World) : Prop := Lib.TabIs Tryd.prog w "strings.asciiSpace" .u8 Lib.asciiSpaceTab
theorem SpaceV.keeps {w w' : World} (h : SpaceV w) (K : Keeps (fun _ => False) w w') : SpaceV w' :=
  Go.Joins.tab_stays (show Tryd.prog.globalNamed "strings.asciiSpace" = some 0 by kernel_rfl) h (K.below (Nat.le_refl _) (fun _ h => h.elim)) (Nat.le_refl _)
theorem trim (l t : List UInt8) (hl : l.length ≤ 1000) (ha : ∀ x ∈ l, x.toNat < 128) (ht : Lib.trimSpace l = t) (w : World) (hw : SpaceV w) : Calls Tryd.prog 12 #[.string (sOf l)] w fun e w' => e = .returned (.string (sOf t)) ∧ Keeps (fun _ => False) w w' := by
  refine (Tryd.strings_TrimSpace (sOf l) w (by rw [sOf_size]; omega) (fun j b hb => ha b (List.mem_of_getElem? (by simpa using hb))) hw).mono fun e w' ⟨h1, h2⟩ => ⟨?_, keeps_bytes (.inr ⟨_, h2⟩)⟩
  rw [h1]
  have : (sOf l).data.toList = l := by simp
  rw [this, ht]
theorem trim_dec (D : List UInt8) (h0 : 0 < D.length) (hd : ∀ x ∈ D, 48 ≤ x.toNat ∧ x.toNat ≤ 57) : Lib.trimSpace (32 :: D) = D := by
  have hsp : ∀ x ∈ D, Lib.isSp x = false := fun x hx => by
    have h := hd x hx
    cases hc : Lib.isSp x with
    | false => rfl
    | true =>
      exfalso
      simp [Lib.isSp] at hc
      rcases hc with ((((hc | hc) | hc) | hc) | hc) | hc <;> (subst hc; revert h; decide)
  rw [Lib.trimSpace_cut (32 :: D) 1 D.length h0 (by simp) ?_ ?_ ?_ ?_]
  · simp
  · intro j b hj hb
    obtain rfl : j = 0 := by omega
    simp at hb
    subst hb
    decide
  · intro b hb
    exact hsp b (List.mem_of_getElem? (by simpa using hb))
  · intro b hb
    refine hsp b ?_
    rw [show D.length = (D.length - 1) + 1 by omega, List.getElem?_cons_succ] at hb
    exact List.mem_of_getElem? hb
  · intro j b hj hb
    rw [List.getElem?_eq_none (by simp; omega)] at hb
    cases hb
end Go.Proofs.YtlkaofhdllkgfaaDoor
