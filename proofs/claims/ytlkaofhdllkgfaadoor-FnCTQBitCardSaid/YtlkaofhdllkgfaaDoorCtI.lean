/- A byte looked for in a text from either end. Conditions: sizes far below the machine's. -/
import Derived.Test.YtlkaofhdllkgfaaDoorProg
import Derived.Test.YtlkaofhdllkgfaaDoorMem
import Derived.LoopTactic
namespace Go.Proofs.YtlkaofhdllkgfaaDoor
open Go.RowKit Go.Lib
set_option linter.unusedVariables false

set_option maxHeartbeats 400000 in
theorem zzIndex_at (w : World) (s : ByteArray) (c : Int) (k : Nat) (hs : s.size ≤ 2147483647) (hk : k < s.size) (hc : (s[k].toNat : Int) = c) (hn : ∀ j (h : j < k), ¬ (((s[j]'(by omega)).toNat : Int) = c)) :
    Calls Tryd.prog 14 #[.string s, .int .u8 c] w fun e w' => e = .returned (.int .i64 k) ∧ w = w' := by
  have HN := Lib.hid hn
  have HC := Lib.hid hc
  clear hn hc
  go_enter Tryd.func14, Tryd.ntmps14
  go_wp2
  go_loop [5] (fun i => ∃ j : Nat, j ≤ k ∧ i = .int .i64 j) (fun i => s.size - (intOf i).toNat)
  case atStart => exact ⟨0, Nat.zero_le _, rfl⟩
  case round =>
    obtain ⟨j, hj, rfl⟩ := hrel
    have hlt : j < s.size := by omega
    by_cases hjk : j = k
    · subst hjk
      have h1 := HC.out
      go_wp2
      go_ret
      exact ⟨rfl, rfl⟩
    · have h1 := HN.out j (by omega)
      go_wp2
      go_round
      case rel => exact ⟨j + 1, by omega, by go_num⟩
      case measure => (first | (simp [intOf]; done) | (simp [intOf]; omega))

set_option maxHeartbeats 400000 in
theorem zzIndex_none (w : World) (s : ByteArray) (c : Int) (hs : s.size ≤ 2147483647) (hn : ∀ j (h : j < s.size), ¬ ((s[j].toNat : Int) = c)) :
    Calls Tryd.prog 14 #[.string s, .int .u8 c] w fun e w' => e = .returned (.int .i64 (-1)) ∧ w = w' := by
  have HN := Lib.hid hn
  clear hn
  go_enter Tryd.func14, Tryd.ntmps14
  go_wp2
  go_loop [5] (fun i => ∃ j : Nat, j ≤ s.size ∧ i = .int .i64 j) (fun i => s.size - (intOf i).toNat)
  case atStart => exact ⟨0, Nat.zero_le _, rfl⟩
  case round =>
    obtain ⟨j, hj, rfl⟩ := hrel
    by_cases hlt : j < s.size
    · have h1 := HN.out j hlt
      go_wp2
      go_round
      case rel => exact ⟨j + 1, by omega, by go_num⟩
      case measure => (first | (simp [intOf]; done) | (simp [intOf]; omega))
    · go_wp2
      go_ret
      exact ⟨rfl, rfl⟩

set_option maxHeartbeats 400000 in
theorem zzLast_at (w : World) (s : ByteArray) (c : Int) (k : Nat) (hs : s.size ≤ 2147483647) (hk : k < s.size) (hc : (s[k].toNat : Int) = c) (hn : ∀ j (h : j < s.size), k < j → ¬ ((s[j].toNat : Int) = c)) :
    Calls Tryd.prog 15 #[.string s, .int .u8 c] w fun e w' => e = .returned (.int .i64 k) ∧ w = w' := by
  have HN := Lib.hid hn
  have HC := Lib.hid hc
  clear hn hc
  go_enter Tryd.func15, Tryd.ntmps15
  go_wp2
  go_loop [5] (fun i => ∃ j : Nat, k ≤ j ∧ j < s.size ∧ i = .int .i64 j) (fun i => (intOf i).toNat)
  case atStart => exact ⟨s.size - 1, by omega, by omega, congrArg (Value.int .i64) (by omega)⟩
  case round =>
    obtain ⟨j, hj, hlt, rfl⟩ := hrel
    by_cases hjk : j = k
    · subst hjk
      have h1 := HC.out
      go_wp2
      go_ret
      exact ⟨rfl, rfl⟩
    · have h1 := HN.out j hlt (by omega)
      have h2 : 0 < j := by omega
      go_wp2
      go_round
      case rel => exact ⟨j - 1, by omega, by omega, congrArg (Value.int .i64) (by omega)⟩
      case measure => (first | (simp [intOf]; done) | (simp [intOf]; omega))

set_option maxHeartbeats 400000 in
theorem zzLast_none (w : World) (s : ByteArray) (c : Int) (hs : s.size ≤ 2147483647) (hn : ∀ j (h : j < s.size), ¬ ((s[j].toNat : Int) = c)) :
    Calls Tryd.prog 15 #[.string s, .int .u8 c] w fun e w' => e = .returned (.int .i64 (-1)) ∧ w = w' := by
  have HN := Lib.hid hn
  clear hn
  go_enter Tryd.func15, Tryd.ntmps15
  go_wp2
  go_loop [5] (fun i => ∃ j : Int, -1 ≤ j ∧ j < s.size ∧ i = .int .i64 j) (fun i => (intOf i + 1).toNat)
  case atStart => exact ⟨_, by omega, by omega, rfl⟩
  case round =>
    obtain ⟨j, hj, hlt, rfl⟩ := hrel
    by_cases h0 : 0 ≤ j
    · obtain ⟨m, rfl⟩ := Int.eq_ofNat_of_zero_le h0
      have hm : m < s.size := by omega
      have h1 := HN.out m hm
      go_wp2
      go_round
      case rel => exact ⟨(m : Int) - 1, by omega, by omega, rfl⟩
      case measure => (first | (simp [intOf]; done) | (simp [intOf]; omega))
    · go_wp2
      go_ret
      exact ⟨rfl, rfl⟩

theorem full_str {k : ByteArray} (hk0 : 0 < k.size) : k.toList.isEmpty = false := by
  rw [ByteArray.toList_eq]
  cases h : k.data.toList with
  | nil => exact absurd (show k.size = 0 from by have := congrArg List.length h; simpa using this) (by omega)
  | cons a l => rfl

end Go.Proofs.YtlkaofhdllkgfaaDoor
