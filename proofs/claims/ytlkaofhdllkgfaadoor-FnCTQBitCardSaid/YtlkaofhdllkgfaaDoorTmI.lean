/- A text looked for in a text.  Conditions: sizes far below the machine's. -/
import Derived.Test.YtlkaofhdllkgfaaDoorProg
import Derived.Test.YtlkaofhdllkgfaaDoorMem
import Derived.LoopTactic
import Derived.Laws.Strings2
import Derived.Laws.Strings3
import Derived.RegionTactic
namespace Go.Proofs.YtlkaofhdllkgfaaDoor
open Go.RowKit Go.Lib
set_option linter.unusedVariables false
theorem Rd.whole {w : World} {g : Nat} {t : TypeId} {cs : Array Value} {xs : List Value} {n : Nat} (h : Whole w g t cs) (hx : cs.toList = xs) (hn : xs.length = n) : Rd w 1 (some ⟨g, 0, none⟩) n xs :=
  ⟨by omega, fun _ => ⟨_, rfl, h.lt, by subst hx; exact World.news_of_block h⟩⟩
theorem rd_one (w : World) (t : TypeId) (v : Value) : Rd (w.alloc (.cells #[v] t)) 1 (some ⟨w.heap.size, 0, none⟩) 1 [v] := Rd.whole (Whole.new w t #[v]) rfl rfl
theorem one_val (v : Value) (h : v.oneCell' = true) : ∀ u ∈ [v], u.oneCell' = true := fun u hu => by rw [List.mem_singleton.1 hu]; exact h
theorem infoStrE : (Tryd.prog.info? 9).map (fun i => (i.zero, i.size, i.bytes)) = some (some (.string ⟨#[]⟩), 1, 16) := by kernel_rfl

theorem wrapI {x : Int} (h : -9223372036854775808 ≤ x) (h2 : x ≤ 9223372036854775807) : IntKind.i64.wrap x = x := by rw [IntKind.wrap_i64]; omega
theorem sl_mid (s : ByteArray) (i j : Nat) (I J : Int) (hI : I = i) (hJ : J = j) (h1 : i ≤ j) (h2 : j ≤ s.size) (w : World) : (Instr.slice 9 (.string s) (some (.int .i64 I)) (some (.int .i64 J)) none).run Tryd.prog w = .ok (.string (s.extract i j)) w := by
  subst hI hJ
  exact run_slice_string (P := Tryd.prog) w 9 s .i64 .i64 i j Tryd.underlying9 (by omega) (by omega) (by omega)
theorem sl_to (s : ByteArray) (j : Nat) (J : Int) (hJ : J = j) (h2 : j ≤ s.size) (w : World) : (Instr.slice 9 (.string s) none (some (.int .i64 J)) none).run Tryd.prog w = .ok (.string (s.extract 0 j)) w := by
  subst hJ
  exact run_slice_string_h (P := Tryd.prog) w 9 (s := s) Tryd.underlying9 .i64 j (by omega) (by omega)
theorem sl_from (s : ByteArray) (i : Nat) (I : Int) (hI : I = i) (h2 : i ≤ s.size) (w : World) : (Instr.slice 9 (.string s) (some (.int .i64 I)) none none).run Tryd.prog w = .ok (.string (s.extract i s.size)) w := by
  subst hI
  exact run_slice_string_l (P := Tryd.prog) w 9 (s := s) Tryd.underlying9 .i64 i (by omega) (by omega)
theorem str_ne {a b : ByteArray} (h : ¬ a = b) : (a.toList == b.toList) = false := by
  rw [ByteArray.toList_eq, ByteArray.toList_eq]
  cases hb : (a.data.toList == b.data.toList) with
  | false => rfl
  | true =>
    refine absurd ?_ h
    apply ByteArray.ext
    have := (beq_iff_eq).1 hb
    exact Array.toList_inj.1 this
theorem str_eq {a b : ByteArray} (h : a = b) : (a.toList == b.toList) = true := by subst h; simp
/-! ### texts as lists of bytes -/
abbrev sOf (l : List UInt8) : ByteArray := ⟨l.toArray⟩
theorem sOf_size (l : List UInt8) : (sOf l).size = l.length := by show l.toArray.size = _; simp
theorem sOf_app (a b : List UInt8) : sOf a ++ sOf b = sOf (a ++ b) := by
  apply ByteArray.ext
  show (sOf a ++ sOf b).data = _
  rw [ByteArray.data_append]
  simp
theorem sOf_ex (l : List UInt8) (i j : Nat) : (sOf l).extract i j = sOf ((l.drop i).take (j - i)) := by
  apply ByteArray.ext
  rw [ByteArray.data_extract]
  simp
theorem sOf_inj {a b : List UInt8} (h : sOf a = sOf b) : a = b := by
  have := congrArg (fun s : ByteArray => s.data.toList) h
  simpa using this
theorem ex_first (a r : List UInt8) : (sOf (a ++ r)).extract 0 a.length = sOf a := by
  rw [sOf_ex]; simp
theorem ex_last (a r : List UInt8) (c : UInt8) : (sOf (a ++ c :: r)).extract (a.length + 1) (sOf (a ++ c :: r)).size = sOf r := by
  rw [sOf_ex, sOf_size]
  congr 1
  rw [List.append_cons, List.drop_left' (by simp), List.take_of_length_le (by simp; omega)]
theorem ex_at (a r : List UInt8) (c : UInt8) : (sOf (a ++ c :: r)).extract a.length (a.length + 1) = sOf [c] := by
  rw [sOf_ex]
  simp
theorem ex_ne {l : List UInt8} {c : UInt8} {j : Nat} (hj : j < l.length) (h : ¬ l[j] = c) : ¬ (sOf l).extract j (j + 1) = sOf [c] := by
  rw [sOf_ex]
  intro he
  have := sOf_inj he
  rw [List.drop_eq_getElem_cons hj, Nat.add_sub_cancel_left, List.take_succ_cons, List.take_zero] at this
  injection this with this
  exact h this

set_option maxRecDepth 10000 in
set_option maxHeartbeats 400000 in
theorem zzIndexS_at (w : World) (s sep : ByteArray) (k : Nat) (hsep : sep.size = 1) (hs : s.size ≤ 2147483647) (hk : k < s.size) (hc : s.extract k (k + 1) = sep) (hn : ∀ j, j < k → ¬ s.extract j (j + 1) = sep) :
    Calls Tryd.prog 17 #[.string s, .string sep] w fun e w' => e = .returned (.int .i64 k) ∧ w = w' := by
  have HS := Lib.hid hs
  have HN := Lib.hid hn
  have HC := Lib.hid hc
  clear hn hc hs
  go_enter Tryd.func17, Tryd.ntmps17
  go_wp2
  go_loop [5] (fun i => ∃ j : Nat, j ≤ k ∧ i = .int .i64 j) (fun i => s.size - (intOf i).toNat)
  case atStart => exact ⟨0, Nat.zero_le _, rfl⟩
  case round =>
    obtain ⟨j, hj, rfl⟩ := hrel
    have hlt : j < s.size := by omega
    have e1 : IntKind.i64.wrap ((j : Int) + 1) = (j : Int) + 1 := by have := HS.out; apply wrapI <;> omega
    have h2 : (((j : Int) + 1 ≤ (s.size : Int))) := by omega
    have hsl := fun w => sl_mid s j (j + 1) j ((j : Int) + 1) rfl (by omega) (by omega) hlt w
    by_cases hjk : j = k
    · subst hjk
      have h1 := str_eq HC.out
      go_wp2
      go_ret
      exact ⟨rfl, rfl⟩
    · have h1 := str_ne (HN.out j (by omega))
      go_wp2
      go_round
      case rel => exact ⟨j + 1, by omega, by simp⟩
      case measure => (first | (simp [intOf]; done) | (simp [intOf]; omega))

set_option maxRecDepth 10000 in
set_option maxHeartbeats 400000 in
theorem zzIndexS_none (w : World) (s sep : ByteArray) (hsep : sep.size = 1) (hs : s.size ≤ 2147483647) (hn : ∀ j, j < s.size → ¬ s.extract j (j + 1) = sep) :
    Calls Tryd.prog 17 #[.string s, .string sep] w fun e w' => e = .returned (.int .i64 (-1)) ∧ w = w' := by
  have HS := Lib.hid hs
  have HN := Lib.hid hn
  clear hn hs
  go_enter Tryd.func17, Tryd.ntmps17
  go_wp2
  go_loop [5] (fun i => ∃ j : Nat, j ≤ s.size ∧ i = .int .i64 j) (fun i => s.size - (intOf i).toNat)
  case atStart => exact ⟨0, Nat.zero_le _, rfl⟩
  case round =>
    obtain ⟨j, hj, rfl⟩ := hrel
    by_cases hlt : j < s.size
    · have h1 := str_ne (HN.out j hlt)
      have e1 : IntKind.i64.wrap ((j : Int) + 1) = (j : Int) + 1 := by have := HS.out; apply wrapI <;> omega
      have h2 : (((j : Int) + 1 ≤ (s.size : Int))) := by omega
      have hsl := fun w => sl_mid s j (j + 1) j ((j : Int) + 1) rfl (by omega) (by omega) hlt w
      go_wp2
      go_round
      case rel => exact ⟨j + 1, by omega, by simp⟩
      case measure => (first | (simp [intOf]; done) | (simp [intOf]; omega))
    · have e1 : IntKind.i64.wrap ((j : Int) + 1) = (j : Int) + 1 := by have := HS.out; apply wrapI <;> omega
      have h2 : ¬ (((j : Int) + 1 ≤ (s.size : Int))) := by omega
      go_wp2
      go_ret
      exact ⟨rfl, rfl⟩

end Go.Proofs.YtlkaofhdllkgfaaDoor
