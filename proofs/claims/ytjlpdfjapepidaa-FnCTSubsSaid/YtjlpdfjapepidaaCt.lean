/- Column types as texts: a byte looked for from either end, the base of a type, the list of plain types. Conditions: sizes far below the machine's. -/
import Derived.Test.YtjlpdfjapepidaaProg
import Derived.Test.YtjlpdfjapepidaaMem
import Derived.LoopTactic
namespace Go.Proofs.Ytjlpdfjapepidaa
open Go.RowKit Go.Lib
set_option linter.unusedVariables false

set_option maxHeartbeats 400000 in
theorem zzIndex_at (w : World) (s : ByteArray) (c : Int) (k : Nat) (hs : s.size ≤ 2147483647) (hk : k < s.size) (hc : (s[k].toNat : Int) = c) (hn : ∀ j (h : j < k), ¬ (((s[j]'(by omega)).toNat : Int) = c)) :
    Calls Try.prog 21 #[.string s, .int .u8 c] w fun e w' => e = .returned (.int .i64 k) ∧ w = w' := by
  have HN := Lib.hid hn
  have HC := Lib.hid hc
  clear hn hc
  go_enter Try.func21, Try.ntmps21
  go_wp2
  go_loop [5] (fun i => ∃ j : Nat, j ≤ k ∧ i = .int .i64 j) (fun i => s.size - (intOf i).toNat)
  case atStart => exact ⟨0, Nat.zero_le _, rfl⟩
  case round =>
    obtain ⟨j, hj, rfl⟩ := hrel
    have hlt : j < s.size := by omega
    by_cases hjk : j = k
    · subst hjk
      have h1 := HC.out
      go_wp2
      go_ret
      exact ⟨rfl, rfl⟩
    · have h1 := HN.out j (by omega)
      go_wp2
      go_round
      case rel => exact ⟨j + 1, by omega, by go_num⟩
      case measure => (first | (simp [intOf]; done) | (simp [intOf]; omega))

set_option maxHeartbeats 400000 in
theorem zzIndex_none (w : World) (s : ByteArray) (c : Int) (hs : s.size ≤ 2147483647) (hn : ∀ j (h : j < s.size), ¬ ((s[j].toNat : Int) = c)) :
    Calls Try.prog 21 #[.string s, .int .u8 c] w fun e w' => e = .returned (.int .i64 (-1)) ∧ w = w' := by
  have HN := Lib.hid hn
  clear hn
  go_enter Try.func21, Try.ntmps21
  go_wp2
  go_loop [5] (fun i => ∃ j : Nat, j ≤ s.size ∧ i = .int .i64 j) (fun i => s.size - (intOf i).toNat)
  case atStart => exact ⟨0, Nat.zero_le _, rfl⟩
  case round =>
    obtain ⟨j, hj, rfl⟩ := hrel
    by_cases hlt : j < s.size
    · have h1 := HN.out j hlt
      go_wp2
      go_round
      case rel => exact ⟨j + 1, by omega, by go_num⟩
      case measure => (first | (simp [intOf]; done) | (simp [intOf]; omega))
    · go_wp2
      go_ret
      exact ⟨rfl, rfl⟩

set_option maxHeartbeats 400000 in
theorem zzLast_at (w : World) (s : ByteArray) (c : Int) (k : Nat) (hs : s.size ≤ 2147483647) (hk : k < s.size) (hc : (s[k].toNat : Int) = c) (hn : ∀ j (h : j < s.size), k < j → ¬ ((s[j].toNat : Int) = c)) :
    Calls Try.prog 22 #[.string s, .int .u8 c] w fun e w' => e = .returned (.int .i64 k) ∧ w = w' := by
  have HN := Lib.hid hn
  have HC := Lib.hid hc
  clear hn hc
  go_enter Try.func22, Try.ntmps22
  go_wp2
  go_loop [5] (fun i => ∃ j : Nat, k ≤ j ∧ j < s.size ∧ i = .int .i64 j) (fun i => (intOf i).toNat)
  case atStart => exact ⟨s.size - 1, by omega, by omega, congrArg (Value.int .i64) (by omega)⟩
  case round =>
    obtain ⟨j, hj, hlt, rfl⟩ := hrel
    by_cases hjk : j = k
    · subst hjk
      have h1 := HC.out
      go_wp2
      go_ret
      exact ⟨rfl, rfl⟩
    · have h1 := HN.out j hlt (by omega)
      have h2 : 0 < j := by omega
      go_wp2
      go_round
      case rel => exact ⟨j - 1, by omega, by omega, congrArg (Value.int .i64) (by omega)⟩
      case measure => (first | (simp [intOf]; done) | (simp [intOf]; omega))

set_option maxHeartbeats 400000 in
theorem zzLast_none (w : World) (s : ByteArray) (c : Int) (hs : s.size ≤ 2147483647) (hn : ∀ j (h : j < s.size), ¬ ((s[j].toNat : Int) = c)) :
    Calls Try.prog 22 #[.string s, .int .u8 c] w fun e w' => e = .returned (.int .i64 (-1)) ∧ w = w' := by
  have HN := Lib.hid hn
  clear hn
  go_enter Try.func22, Try.ntmps22
  go_wp2
  go_loop [5] (fun i => ∃ j : Int, -1 ≤ j ∧ j < s.size ∧ i = .int .i64 j) (fun i => (intOf i + 1).toNat)
  case atStart => exact ⟨_, by omega, by omega, rfl⟩
  case round =>
    obtain ⟨j, hj, hlt, rfl⟩ := hrel
    by_cases h0 : 0 ≤ j
    · obtain ⟨m, rfl⟩ := Int.eq_ofNat_of_zero_le h0
      have hm : m < s.size := by omega
      have h1 := HN.out m hm
      go_wp2
      go_round
      case rel => exact ⟨(m : Int) - 1, by omega, by omega, rfl⟩
      case measure => (first | (simp [intOf]; done) | (simp [intOf]; omega))
    · go_wp2
      go_ret
      exact ⟨rfl, rfl⟩

theorem full_str {k : ByteArray} (hk0 : 0 < k.size) : k.toList.isEmpty = false := by
  rw [ByteArray.toList_eq]
  cases h : k.data.toList with
  | nil => exact absurd (show k.size = 0 from by have := congrArg List.length h; simpa using this) (by omega)
  | cons a l => rfl

set_option maxHeartbeats 400000 in
theorem base_plain (w : World) (s : ByteArray) (hs : s.size ≤ 2147483647) (h0 : 0 < s.size) (h1 : ∀ j (h : j < s.size), ¬ ((s[j].toNat : Int) = 40)) (h2 : ∀ j (h : j < s.size), ¬ ((s[j].toNat : Int) = 41)) :
    Calls Try.prog 11 #[.string s] w fun e w' => e = .returned (.string s) ∧ w = w' := by
  have H1 := Lib.hid (fun w => zzIndex_none w s 40 hs h1)
  have H2 := Lib.hid (fun w => zzLast_none w s 41 hs h2)
  have hf := full_str h0
  clear h1 h2
  go_enter Try.func11, Try.ntmps11
  go_wp2_with (first | (go_at_call 17; go_in))
  refine (H1.out _).mono ?_
  rintro e w1 ⟨rfl, rfl⟩
  go_wp2_with fail
  refine (H2.out _).mono ?_
  rintro e w1 ⟨rfl, rfl⟩
  go_wp2_with fail
  go_ret
  exact ⟨rfl, rfl⟩

set_option maxHeartbeats 400000 in
theorem base_par (w : World) (s : ByteArray) (k m : Nat) (hs : s.size ≤ 2147483647) (hk0 : 0 < k) (hkm : k < m) (hm : m < s.size) (hc : (s[k].toNat : Int) = 40) (hn : ∀ j (h : j < k), ¬ (((s[j]'(by omega)).toNat : Int) = 40))
    (hd : (s[m].toNat : Int) = 41) (hl : ∀ j (h : j < s.size), m < j → ¬ ((s[j].toNat : Int) = 41)) :
    Calls Try.prog 11 #[.string s] w fun e w' => e = .returned (.string (s.extract 0 k)) ∧ w = w' := by
  have H1 := Lib.hid (fun w => zzIndex_at w s 40 k hs (by omega) hc hn)
  have H2 := Lib.hid (fun w => zzLast_at w s 41 m hs hm hd hl)
  have hf := full_str (show 0 < s.size by omega)
  clear hc hn hd hl
  go_enter Try.func11, Try.ntmps11
  go_wp2_with (first | (go_at_call 17; go_in))
  refine (H1.out _).mono ?_
  rintro e w1 ⟨rfl, rfl⟩
  go_wp2_with fail
  refine (H2.out _).mono ?_
  rintro e w1 ⟨rfl, rfl⟩
  go_wp2_with fail
  go_ret
  exact ⟨rfl, rfl⟩

/-- The plain types. -/
def plains : List ByteArray := [(⟨#[73, 110, 116, 56]⟩ : ByteArray), (⟨#[73, 110, 116, 49, 54]⟩ : ByteArray), (⟨#[73, 110, 116, 51, 50]⟩ : ByteArray), (⟨#[73, 110, 116, 54, 52]⟩ : ByteArray), (⟨#[73, 110, 116, 49, 50, 56]⟩ : ByteArray), (⟨#[73, 110, 116, 50, 53, 54]⟩ : ByteArray), (⟨#[85, 73, 110, 116, 56]⟩ : ByteArray), (⟨#[85, 73, 110, 116, 49, 54]⟩ : ByteArray), (⟨#[85, 73, 110, 116, 51, 50]⟩ : ByteArray), (⟨#[85, 73, 110, 116, 54, 52]⟩ : ByteArray), (⟨#[85, 73, 110, 116, 49, 50, 56]⟩ : ByteArray), (⟨#[85, 73, 110, 116, 50, 53, 54]⟩ : ByteArray), (⟨#[70, 108, 111, 97, 116, 51, 50]⟩ : ByteArray), (⟨#[70, 108, 111, 97, 116, 54, 52]⟩ : ByteArray), (⟨#[83, 116, 114, 105, 110, 103]⟩ : ByteArray), (⟨#[66, 111, 111, 108]⟩ : ByteArray), (⟨#[73, 80, 118, 52]⟩ : ByteArray), (⟨#[73, 80, 118, 54]⟩ : ByteArray), (⟨#[85, 85, 73, 68]⟩ : ByteArray), (⟨#[68, 97, 116, 101]⟩ : ByteArray), (⟨#[68, 97, 116, 101, 51, 50]⟩ : ByteArray), (⟨#[68, 97, 116, 101, 84, 105, 109, 101]⟩ : ByteArray)]
def plainCells : Array Value := #[.string ⟨#[73, 110, 116, 56]⟩, .string ⟨#[73, 110, 116, 49, 54]⟩, .string ⟨#[73, 110, 116, 51, 50]⟩, .string ⟨#[73, 110, 116, 54, 52]⟩, .string ⟨#[73, 110, 116, 49, 50, 56]⟩, .string ⟨#[73, 110, 116, 50, 53, 54]⟩, .string ⟨#[85, 73, 110, 116, 56]⟩, .string ⟨#[85, 73, 110, 116, 49, 54]⟩, .string ⟨#[85, 73, 110, 116, 51, 50]⟩, .string ⟨#[85, 73, 110, 116, 54, 52]⟩, .string ⟨#[85, 73, 110, 116, 49, 50, 56]⟩, .string ⟨#[85, 73, 110, 116, 50, 53, 54]⟩, .string ⟨#[70, 108, 111, 97, 116, 51, 50]⟩, .string ⟨#[70, 108, 111, 97, 116, 54, 52]⟩, .string ⟨#[83, 116, 114, 105, 110, 103]⟩, .string ⟨#[66, 111, 111, 108]⟩, .string ⟨#[73, 80, 118, 52]⟩, .string ⟨#[73, 80, 118, 54]⟩, .string ⟨#[85, 85, 73, 68]⟩, .string ⟨#[68, 97, 116, 101]⟩, .string ⟨#[68, 97, 116, 101, 51, 50]⟩, .string ⟨#[68, 97, 116, 101, 84, 105, 109, 101]⟩]
theorem plainCells_get (k : Nat) : plainCells[k]? = (plains[k]?).map Value.string := by
  rcases Nat.lt_or_ge k 22 with h | h
  · match k, h with
    | 0, _ => rfl
    | 1, _ => rfl
    | 2, _ => rfl
    | 3, _ => rfl
    | 4, _ => rfl
    | 5, _ => rfl
    | 6, _ => rfl
    | 7, _ => rfl
    | 8, _ => rfl
    | 9, _ => rfl
    | 10, _ => rfl
    | 11, _ => rfl
    | 12, _ => rfl
    | 13, _ => rfl
    | 14, _ => rfl
    | 15, _ => rfl
    | 16, _ => rfl
    | 17, _ => rfl
    | 18, _ => rfl
    | 19, _ => rfl
    | 20, _ => rfl
    | 21, _ => rfl
    | n + 22, h => omega
  · rw [Array.getElem?_eq_none (show plainCells.size ≤ k from h), List.getElem?_eq_none (show plains.length ≤ k from h)]; rfl

set_option maxHeartbeats 400000 in
theorem ctPlain (w : World) : Calls Try.prog 6 #[] w fun e w' => e = .returned (.slice (some ⟨w.heap.size, 0, none⟩) 22 22) ∧ w' = w.alloc (.cells plainCells 9) := by
  go_enter Try.func6, Try.ntmps6
  go_wp2
  go_ret
  exact ⟨rfl, rfl⟩
def plainB (s : ByteArray) : Bool := decide (0 < s.size) && decide (s.size ≤ 8) && s.data.toList.all (fun b => b != 40 && b != 41)
theorem plains_ok : plains.all plainB = true := by decide
theorem plain_of {k : Nat} {s : ByteArray} (h : plains[k]? = some s) : 0 < s.size ∧ s.size ≤ 8 ∧ (∀ j (h : j < s.size), ¬ ((s[j].toNat : Int) = 40)) ∧ (∀ j (h : j < s.size), ¬ ((s[j].toNat : Int) = 41)) := by
  have h1 := List.all_eq_true.1 plains_ok s (List.mem_of_getElem? h)
  simp only [plainB, Bool.and_eq_true, decide_eq_true_eq, List.all_eq_true, bne_iff_ne] at h1
  obtain ⟨⟨a, b⟩, c⟩ := h1
  have key : ∀ j (h : j < s.size), s[j] ∈ s.data.toList := fun j h => by
    show s.data[j]'h ∈ s.data.toList
    simp
  refine ⟨a, b, fun j h e => (c _ (key j h)).1 ?_, fun j h e => (c _ (key j h)).2 ?_⟩
  · exact UInt8.toNat_inj.1 (by show s[j].toNat = 40; omega)
  · exact UInt8.toNat_inj.1 (by show s[j].toNat = 41; omega)
end Go.Proofs.Ytjlpdfjapepidaa
