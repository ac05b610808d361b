/- Whether a number may be put as it is, and whether there is a value that may not. Conditions: the row reads as values. -/
import Derived.Test.YthfoleapdmpdfaaDoorRp
namespace Go.Proofs.YthfoleapdmpdfaaDoor
open Go.RowKit Go.Lib
set_option linter.unusedVariables false
def WholeB (a : PAsk) : Bool := (decide (a.op ≠ 16) && decide (a.op ≠ 17)) || decide (a.u < 9223372036854775808)
set_option maxRecDepth 100000 in
set_option maxHeartbeats 2000000 in
theorem prWholeOk (w : World) (a : PAsk) : Calls Tryd.prog 15 #[.agg #[.int .i64 a.op, .int .u64 (a.u : Int), .int .u64 a.v, .slice a.A a.s.length a.c]] w fun e w' => e = .returned (.bool (WholeB a)) ∧ Keeps (fun _ => False) w w' := by
  obtain ⟨op, u, v, s, A, c⟩ := a
  have K0 := (Keeps.refl (fun _ => False) w).alloc (.cells #[.int .i64 op, .int .u64 (u : Int), .int .u64 v, .slice A s.length c] 28)
  by_cases h16 : op = 16
  · have hw : WholeB ⟨op, u, v, s, A, c⟩ = decide ((u : Int) < 9223372036854775808) := by simp [WholeB, h16]; omega
    rw [hw]
    subst h16
    go_enter Tryd.func15, Tryd.ntmps15
    go_wp2_with fail
    go_ret
    exact ⟨rfl, K0⟩
  by_cases h17 : op = 17
  · have hw : WholeB ⟨op, u, v, s, A, c⟩ = decide ((u : Int) < 9223372036854775808) := by simp [WholeB, h17]; omega
    rw [hw]
    subst h17
    go_enter Tryd.func15, Tryd.ntmps15
    go_wp2_with fail
    go_ret
    exact ⟨rfl, K0⟩
  · have hw : WholeB ⟨op, u, v, s, A, c⟩ = true := by simp [WholeB, h16, h17]
    rw [hw]
    have e16 : (op != 16) = true := by simpa using h16
    have e17 : (op != 17) = true := by simpa using h17
    clear h16 h17 hw
    go_enter Tryd.func15, Tryd.ntmps15
    go_wp2_with fail
    go_ret
    exact ⟨rfl, K0⟩
set_option maxRecDepth 100000 in
set_option maxHeartbeats 2000000 in
theorem notWhole (w : World) (a : PAsk) : Calls Tryd.prog 14 #[.agg #[.int .i64 a.op, .int .u64 (a.u : Int), .int .u64 a.v, .slice a.A a.s.length a.c]] w fun e w' => e = .returned (.bool (!WholeB a)) ∧ Keeps (fun _ => False) w w' := by
  have K0 := (Keeps.refl (fun _ => False) w).alloc (.cells #[.int .i64 a.op, .int .u64 (a.u : Int), .int .u64 a.v, .slice a.A a.s.length a.c] 28)
  have HP := Lib.hid (prWholeOk (w.alloc (.cells #[.int .i64 a.op, .int .u64 (a.u : Int), .int .u64 a.v, .slice a.A a.s.length a.c] 28)) a)
  go_enter Tryd.func14, Tryd.ntmps14
  go_wp2_with fail
  refine HP.out.mono ?_
  rintro e w1 ⟨rfl, K1⟩
  go_wp2_with fail
  go_ret
  exact ⟨rfl, K0.trans K1 (fun _ _ h => h)⟩
set_option maxRecDepth 100000 in
set_option maxHeartbeats 4000000 in
theorem indexNotWhole (w : World) (E : Option Addr) (n ce : Nat) (asks : List PAsk) (hE : AsksAt w E n asks) (hn : n ≤ 1000) : Calls Tryd.prog 26 #[.slice E n ce, .func (.func 14) #[] #[]] w fun e w' => (∃ i : Int, e = .returned (.int .i64 i) ∧ (i < 0 → ∀ a ∈ asks, WholeB a = true)) ∧ Keeps (fun _ => False) w w' := by
  have HE := Lib.hid hE
  clear hE
  go_enter Tryd.func26, Tryd.ntmps26
  go_wp2_with fail
  go_loopw [8] (fun i wr => ∃ (k : Nat), k ≤ n ∧ i = .int .i64 k ∧ Hid (∀ j a, j < k → asks[j]? = some a → WholeB a = true) ∧ Hid (Keeps (fun _ => False) w wr)) (fun i _ => n - (RowKit.intOf i).toNat)
  case atStart => exact ⟨0, Nat.zero_le _, rfl, Lib.hid (fun j a h => absurd h (by omega)), Lib.hid (Keeps.refl _ _)⟩
  case round =>
    obtain ⟨k, hk, rfl, HA, HK⟩ := hrel
    by_cases hlt : k < n
    · obtain ⟨a, ha⟩ : ∃ a, asks[k]? = some a := ⟨_, List.getElem?_eq_getElem (by rw [HE.out.len]; exact hlt)⟩
      have hE2 := HE.out.new HK.out
      obtain ⟨ad, hEe, hb, hcell⟩ := rows4 askC askC_len hE2.len hE2.rows ha
      subst hEe
      have x0 : wr.cell? (ad.add (k * 4)) = some (.int .i64 a.op) := hcell 0 _ rfl
      have x1 : wr.cell? ⟨(ad.add (k * 4)).block, (ad.add (k * 4)).off + 1, none⟩ = some (.int .u64 (a.u : Int)) := hcell 1 _ rfl
      have x2 : wr.cell? ⟨(ad.add (k * 4)).block, (ad.add (k * 4)).off + 2, none⟩ = some (.int .u64 a.v) := hcell 2 _ rfl
      have x3 : wr.cell? ⟨(ad.add (k * 4)).block, (ad.add (k * 4)).off + 3, none⟩ = some (.slice a.A a.s.length a.c) := hcell 3 _ rfl
      have HP := Lib.hid (notWhole wr a)
      have HAA := Lib.hid ha
      clear hcell hE2 ha
      go_wp2_with fail
      refine HP.out.mono ?_
      rintro e w1 ⟨rfl, K1⟩
      have HK1 := Lib.hid (HK.out.trans K1 (fun _ _ h => h))
      clear K1
      cases hw : WholeB a
      · simp only [Bool.not_false]
        go_wp2_with fail
        go_ret
        exact ⟨⟨(k : Int), rfl, fun h => absurd h (by omega)⟩, HK1.out⟩
      · have HW := Lib.hid hw
        clear hw
        simp only [Bool.not_true]
        go_wp2_with fail
        go_roundw
        case rel => exact ⟨k + 1, by omega, by go_num, Lib.hid (fun j a' hj hja => by
          by_cases hjk : j = k
          · subst hjk
            rw [HAA.out] at hja
            injection hja with hja
            subst hja
            exact HW.out
          · exact HA.out j a' (by omega) hja), HK1⟩
        case measure => (first | (simp [RowKit.intOf]; done) | (simp [RowKit.intOf]; omega))
    · go_wp2_with fail
      go_ret
      refine ⟨⟨-1, rfl, fun _ a ha => ?_⟩, HK.out⟩
      obtain ⟨j, hj⟩ := List.getElem?_of_mem ha
      exact HA.out j a (by have := (List.getElem?_eq_some_iff.1 hj).1; rw [HE.out.len] at this; omega) hj
end Go.Proofs.YthfoleapdmpdfaaDoor
