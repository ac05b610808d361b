/- Asides of the law on the client's hello: sizes, short strings, whole numbers, equality of two messages. No conditions but those that each theorem names. -/
import Derived.Test.YtgnlfbekkddmiaaHelloSpec2
import Derived.Laws.StructEq
import Derived.Laws.Rows
namespace Go.Proofs.Ytgnlfbekkddmiaa
open Go.RowKit Go.Lib
set_option linter.unusedVariables false

theorem helloEq (w : World) (t0 : ByteArray) (x1 : Int) (x2 : Int) (x3 : Int) (t4 : ByteArray) (t5 : ByteArray) (t6 : ByteArray) : (Op.equalIn 10000 36 (.agg #[.string t0, .int .i64 x1, .int .i64 x2, .int .i64 x3, .string t4, .string t5, .string t6]) (.agg #[.string t0, .int .i64 x1, .int .i64 x2, .int .i64 x3, .string t4, .string t5, .string t6])).run Try.prog w = .ok true w := by
  rw [run_equalIn_agg w 9999 _ _ _ (by kernel_rfl) (by kernel_rfl)]
  simp [Op.eqFields, Program.fieldsOf, Try.underlying36, part, go_sem]

set_option maxRecDepth 100000 in
set_option maxHeartbeats 1000000 in
theorem zz14 (w : World) (t0 : ByteArray) (x1 : Int) (x2 : Int) (x3 : Int) (t4 : ByteArray) (t5 : ByteArray) (t6 : ByteArray) : Calls Try.prog 12 #[.agg #[.string t0, .int .i64 x1, .int .i64 x2, .int .i64 x3, .string t4, .string t5, .string t6]] w fun e w' => e = .returned (.bool (decide (t0.size ≤ 2147483647 ∧ t4.size ≤ 2147483647 ∧ t5.size ≤ 2147483647 ∧ t6.size ≤ 2147483647))) ∧ w' = w.alloc (.cells #[.string t0, .int .i64 x1, .int .i64 x2, .int .i64 x3, .string t4, .string t5, .string t6] 36) := by
  by_cases h0 : t0.size ≤ 2147483647
  · have g0 : ¬ (2147483647 : Int) < (t0.size : Int) := by omega
    by_cases h4 : t4.size ≤ 2147483647
    · have g4 : ¬ (2147483647 : Int) < (t4.size : Int) := by omega
      by_cases h5 : t5.size ≤ 2147483647
      · have g5 : ¬ (2147483647 : Int) < (t5.size : Int) := by omega
        by_cases h6 : t6.size ≤ 2147483647
        · have g6 : ¬ (2147483647 : Int) < (t6.size : Int) := by omega
          rw [decide_eq_true ⟨h0, h4, h5, h6⟩]
          clear h0 h4 h5 h6
          go_enter Try.func12, Try.ntmps12
          go_wp2_with fail
          go_ret
          exact ⟨rfl, rfl⟩
        · have g6 : (2147483647 : Int) < (t6.size : Int) := by omega
          rw [decide_eq_false (fun h => h6 h.2.2.2)]
          clear h0 h4 h5 h6
          go_enter Try.func12, Try.ntmps12
          go_wp2_with fail
          go_ret
          exact ⟨rfl, rfl⟩
      · have g5 : (2147483647 : Int) < (t5.size : Int) := by omega
        rw [decide_eq_false (fun h => h5 h.2.2.1)]
        clear h0 h4 h5
        go_enter Try.func12, Try.ntmps12
        go_wp2_with fail
        go_ret
        exact ⟨rfl, rfl⟩
    · have g4 : (2147483647 : Int) < (t4.size : Int) := by omega
      rw [decide_eq_false (fun h => h4 h.2.1)]
      clear h0 h4
      go_enter Try.func12, Try.ntmps12
      go_wp2_with fail
      go_ret
      exact ⟨rfl, rfl⟩
  · have g0 : (2147483647 : Int) < (t0.size : Int) := by omega
    rw [decide_eq_false (fun h => h0 h.1)]
    clear h0
    go_enter Try.func12, Try.ntmps12
    go_wp2_with fail
    go_ret
    exact ⟨rfl, rfl⟩

set_option maxRecDepth 100000 in
set_option maxHeartbeats 2000000 in
theorem pkShort4 (w : World) (g : Nat) (t : TypeId) (a0 a1 a2 a3 : ByteArray) (hW : Whole w g t #[.string a0, .string a1, .string a2, .string a3]) :
    Calls Try.prog 5 #[.slice (some ⟨g, 0, none⟩) 4 4] w fun e w' => e = .returned (.bool (decide (a0.size ≤ 100 ∧ a1.size ≤ 100 ∧ a2.size ≤ 100 ∧ a3.size ≤ 100))) ∧ w = w' := by
  have c0 : w.cell? ⟨g, 0, none⟩ = some (.string a0) := hW.cell 0
  have c1 : w.cell? ⟨g, 1, none⟩ = some (.string a1) := hW.cell 1
  have c2 : w.cell? ⟨g, 2, none⟩ = some (.string a2) := hW.cell 2
  have c3 : w.cell? ⟨g, 3, none⟩ = some (.string a3) := hW.cell 3
  have hlt := hW.lt
  by_cases h0 : a0.size ≤ 100
  · have g0 : ¬ (100 : Int) < (a0.size : Int) := by omega
    by_cases h1 : a1.size ≤ 100
    · have g1 : ¬ (100 : Int) < (a1.size : Int) := by omega
      by_cases h2 : a2.size ≤ 100
      · have g2 : ¬ (100 : Int) < (a2.size : Int) := by omega
        by_cases h3 : a3.size ≤ 100
        · have g3 : ¬ (100 : Int) < (a3.size : Int) := by omega
          rw [decide_eq_true ⟨h0, h1, h2, h3⟩]
          clear h0 h1 h2 h3
          go_enter Try.func5, Try.ntmps5
          go_wp2_with (first | (go_at_call 18; go_in) | (go_at_call 33; go_in))
          refine wp_loop_rounds 5 ?_
          rw [rounds_succ]
          go_wp2_with (first | (go_at_call 19; go_in))
          rw [rounds_succ]
          go_wp2_with (first | (go_at_call 19; go_in))
          rw [rounds_succ]
          go_wp2_with (first | (go_at_call 19; go_in))
          rw [rounds_succ]
          go_wp2_with (first | (go_at_call 19; go_in))
          rw [rounds_succ]
          go_wp2_with fail
          go_ret
          exact ⟨rfl, rfl⟩
        · have g3 : (100 : Int) < (a3.size : Int) := by omega
          rw [decide_eq_false (fun h => h3 h.2.2.2)]
          clear h0 h1 h2 h3
          go_enter Try.func5, Try.ntmps5
          go_wp2_with (first | (go_at_call 18; go_in) | (go_at_call 33; go_in))
          refine wp_loop_rounds 4 ?_
          rw [rounds_succ]
          go_wp2_with (first | (go_at_call 19; go_in))
          rw [rounds_succ]
          go_wp2_with (first | (go_at_call 19; go_in))
          rw [rounds_succ]
          go_wp2_with (first | (go_at_call 19; go_in))
          rw [rounds_succ]
          go_wp2_with (first | (go_at_call 19; go_in))
          go_ret
          exact ⟨rfl, rfl⟩
      · have g2 : (100 : Int) < (a2.size : Int) := by omega
        rw [decide_eq_false (fun h => h2 h.2.2.1)]
        clear h0 h1 h2
        go_enter Try.func5, Try.ntmps5
        go_wp2_with (first | (go_at_call 18; go_in) | (go_at_call 33; go_in))
        refine wp_loop_rounds 3 ?_
        rw [rounds_succ]
        go_wp2_with (first | (go_at_call 19; go_in))
        rw [rounds_succ]
        go_wp2_with (first | (go_at_call 19; go_in))
        rw [rounds_succ]
        go_wp2_with (first | (go_at_call 19; go_in))
        go_ret
        exact ⟨rfl, rfl⟩
    · have g1 : (100 : Int) < (a1.size : Int) := by omega
      rw [decide_eq_false (fun h => h1 h.2.1)]
      clear h0 h1
      go_enter Try.func5, Try.ntmps5
      go_wp2_with (first | (go_at_call 18; go_in) | (go_at_call 33; go_in))
      refine wp_loop_rounds 2 ?_
      rw [rounds_succ]
      go_wp2_with (first | (go_at_call 19; go_in))
      rw [rounds_succ]
      go_wp2_with (first | (go_at_call 19; go_in))
      go_ret
      exact ⟨rfl, rfl⟩
  · have g0 : (100 : Int) < (a0.size : Int) := by omega
    rw [decide_eq_false (fun h => h0 h.1)]
    clear h0
    go_enter Try.func5, Try.ntmps5
    go_wp2_with (first | (go_at_call 18; go_in) | (go_at_call 33; go_in))
    refine wp_loop_rounds 1 ?_
    rw [rounds_succ]
    go_wp2_with (first | (go_at_call 19; go_in))
    go_ret
    exact ⟨rfl, rfl⟩

set_option maxRecDepth 100000 in
set_option maxHeartbeats 2000000 in
theorem pkWhole3 (w : World) (g : Nat) (t : TypeId) (a0 a1 a2 : Int) (hW : Whole w g t #[.int .i64 a0, .int .i64 a1, .int .i64 a2]) :
    Calls Try.prog 13 #[.slice (some ⟨g, 0, none⟩) 3 3] w fun e w' => e = .returned (.bool (decide ((0 ≤ a0 ∧ a0 < 2147483648) ∧ (0 ≤ a1 ∧ a1 < 2147483648) ∧ (0 ≤ a2 ∧ a2 < 2147483648)))) ∧ w = w' := by
  have c0 : w.cell? ⟨g, 0, none⟩ = some (.int .i64 a0) := hW.cell 0
  have c1 : w.cell? ⟨g, 1, none⟩ = some (.int .i64 a1) := hW.cell 1
  have c2 : w.cell? ⟨g, 2, none⟩ = some (.int .i64 a2) := hW.cell 2
  have hlt := hW.lt
  by_cases h0 : (0 ≤ a0 ∧ a0 < 2147483648)
  · have g0 : ¬ a0 < 0 := by omega
    have k0 : ¬ (2147483648 : Int) ≤ a0 := by omega
    by_cases h1 : (0 ≤ a1 ∧ a1 < 2147483648)
    · have g1 : ¬ a1 < 0 := by omega
      have k1 : ¬ (2147483648 : Int) ≤ a1 := by omega
      by_cases h2 : (0 ≤ a2 ∧ a2 < 2147483648)
      · have g2 : ¬ a2 < 0 := by omega
        have k2 : ¬ (2147483648 : Int) ≤ a2 := by omega
        rw [decide_eq_true ⟨h0, h1, h2⟩]
        clear h0 h1 h2
        go_enter Try.func13, Try.ntmps13
        go_wp2_with (first | (go_at_call 26; go_in) | (go_at_call 42; go_in))
        refine wp_loop_rounds 4 ?_
        rw [rounds_succ]
        go_wp2_with (first | (go_at_call 27; go_in))
        rw [rounds_succ]
        go_wp2_with (first | (go_at_call 27; go_in))
        rw [rounds_succ]
        go_wp2_with (first | (go_at_call 27; go_in))
        rw [rounds_succ]
        go_wp2_with fail
        go_ret
        exact ⟨rfl, rfl⟩
      · rw [decide_eq_false (fun h => h2 h.2.2)]
        by_cases g2 : a2 < 0
        · clear h0 h1 h2
          go_enter Try.func13, Try.ntmps13
          go_wp2_with (first | (go_at_call 26; go_in) | (go_at_call 42; go_in))
          refine wp_loop_rounds 3 ?_
          rw [rounds_succ]
          go_wp2_with (first | (go_at_call 27; go_in))
          rw [rounds_succ]
          go_wp2_with (first | (go_at_call 27; go_in))
          rw [rounds_succ]
          go_wp2_with (first | (go_at_call 27; go_in))
          go_ret
          exact ⟨rfl, rfl⟩
        · have k2 : (2147483648 : Int) ≤ a2 := by omega
          clear h0 h1 h2
          go_enter Try.func13, Try.ntmps13
          go_wp2_with (first | (go_at_call 26; go_in) | (go_at_call 42; go_in))
          refine wp_loop_rounds 3 ?_
          rw [rounds_succ]
          go_wp2_with (first | (go_at_call 27; go_in))
          rw [rounds_succ]
          go_wp2_with (first | (go_at_call 27; go_in))
          rw [rounds_succ]
          go_wp2_with (first | (go_at_call 27; go_in))
          go_ret
          exact ⟨rfl, rfl⟩
    · rw [decide_eq_false (fun h => h1 h.2.1)]
      by_cases g1 : a1 < 0
      · clear h0 h1
        go_enter Try.func13, Try.ntmps13
        go_wp2_with (first | (go_at_call 26; go_in) | (go_at_call 42; go_in))
        refine wp_loop_rounds 2 ?_
        rw [rounds_succ]
        go_wp2_with (first | (go_at_call 27; go_in))
        rw [rounds_succ]
        go_wp2_with (first | (go_at_call 27; go_in))
        go_ret
        exact ⟨rfl, rfl⟩
      · have k1 : (2147483648 : Int) ≤ a1 := by omega
        clear h0 h1
        go_enter Try.func13, Try.ntmps13
        go_wp2_with (first | (go_at_call 26; go_in) | (go_at_call 42; go_in))
        refine wp_loop_rounds 2 ?_
        rw [rounds_succ]
        go_wp2_with (first | (go_at_call 27; go_in))
        rw [rounds_succ]
        go_wp2_with (first | (go_at_call 27; go_in))
        go_ret
        exact ⟨rfl, rfl⟩
  · rw [decide_eq_false (fun h => h0 h.1)]
    by_cases g0 : a0 < 0
    · clear h0
      go_enter Try.func13, Try.ntmps13
      go_wp2_with (first | (go_at_call 26; go_in) | (go_at_call 42; go_in))
      refine wp_loop_rounds 1 ?_
      rw [rounds_succ]
      go_wp2_with (first | (go_at_call 27; go_in))
      go_ret
      exact ⟨rfl, rfl⟩
    · have k0 : (2147483648 : Int) ≤ a0 := by omega
      clear h0
      go_enter Try.func13, Try.ntmps13
      go_wp2_with (first | (go_at_call 26; go_in) | (go_at_call 42; go_in))
      refine wp_loop_rounds 1 ?_
      rw [rounds_succ]
      go_wp2_with (first | (go_at_call 27; go_in))
      go_ret
      exact ⟨rfl, rfl⟩
end Go.Proofs.Ytgnlfbekkddmiaa
