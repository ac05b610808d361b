/- Rows of numbers that came in. Conditions: lengths that an argument can have. -/
import Derived.Test.YtfkokngjclaikaaNm
import Derived.Test.YtfkokngjclaikaaArS
import Derived.OpenShut
import Derived.LoopTactic
namespace Go.Proofs.Ytfkokngjclaikaa
open Go.RowKit Go.Lib Go.Deep
set_option linter.unusedVariables false
def RowsIn (w : World) (A : Option Addr) (LL : List (List Nat)) : Prop := ∀ (i : Nat) (X : List Nat), LL[i]? = some X → ∃ (ad : Addr) (B : Option Addr) (d : Nat), A = some ad ∧ ad.block < w.heap.size ∧ w.cell? (ad.add i) = some (.slice B X.length d) ∧ X.length ≤ d ∧ Rd w 1 B X.length (nv X)
theorem row_nums (w : World) (a : Option Addr) (len cap : Nat) (zs : List Int) (h : (a = none ∧ len = 0 ∧ cap = 0 ∧ zs = []) ∨ ∃ x, a = some x ∧ len ≤ cap ∧ cap ≤ maxLen ∧ zs.length = cap ∧ (∀ i, i < zs.length → w.cell? (x.add i) = some (.int .u32 (zs.getD i 0))) ∧ ∀ n ∈ zs, (Lit.int .u32 n).wf = true) :
    ∃ l : List Nat, l.length = len ∧ Rd w 1 a len (nv l) ∧ len ≤ cap ∧ len ≤ maxLen ∧ ∀ x ∈ l, x < 4294967296 := by
  rcases h with ⟨rfl, rfl, rfl, rfl⟩ | ⟨x, rfl, hlc, hm, hz, hcell, hwf⟩
  · exact ⟨[], rfl, Rd.none', Nat.le_refl _, Nat.zero_le _, fun x h => by cases h⟩
  · have hin : ∀ z ∈ zs, 0 ≤ z ∧ z < 4294967296 := fun z hz => by
      have hb := hwf z hz
      simp [Lit.wf, IntKind.min, IntKind.max, IntKind.signed, IntKind.bits] at hb
      omega
    refine ⟨(zs.take len).map fun z => z.toNat, by simp; omega, ⟨by simp [nv]; omega, fun hn => ?_⟩, hlc, Nat.le_trans hlc hm, fun y hy => ?_⟩
    · have hlt : x.block < w.heap.size := by
        have h0 := hcell 0 (by omega)
        have e0 : x.add 0 = x := by simp [Addr.add]
        rw [e0] at h0
        rcases Nat.lt_or_ge x.block w.heap.size with h | h
        · exact h
        · simp [World.cell?, Array.getElem?_eq_none h] at h0
      refine ⟨x, rfl, hlt, fun j u hu => ?_⟩
      simp only [nv, List.map_map, List.getElem?_map, Option.map_eq_some_iff] at hu
      obtain ⟨z, hz1, rfl⟩ := hu
      rw [List.getElem?_take] at hz1
      split at hz1
      case isFalse => cases hz1
      have hj : j < zs.length := by omega
      rw [hcell j hj]
      have hz2 : zs.getD j 0 = z := by rw [List.getD_eq_getElem?_getD, hz1]; rfl
      rw [hz2]
      have hb := hin z (List.mem_of_getElem? hz1)
      have e : ((z.toNat : Nat) : Int) = z := by omega
      simp only [Function.comp, e]
    · obtain ⟨z, hz1, rfl⟩ := List.mem_map.1 hy
      have := hin z (List.mem_of_mem_take hz1)
      omega
theorem rows_nums (w : World) (a : Option Addr) (len cap : Nat) (h : (a = none ∧ len = 0 ∧ cap = 0) ∨ ∃ x, a = some x ∧ len ≤ cap ∧ cap ≤ maxLen ∧ ∀ r, r < len → ∃ (A : Option Addr) (L C : Nat) (zs : List Int), w.cell? (x.add r) = some (.slice A L C) ∧ ((A = none ∧ L = 0 ∧ C = 0 ∧ zs = []) ∨ ∃ y, A = some y ∧ L ≤ C ∧ C ≤ maxLen ∧ zs.length = C ∧ (∀ i, i < zs.length → w.cell? (y.add i) = some (.int .u32 (zs.getD i 0))) ∧ ∀ n ∈ zs, (Lit.int .u32 n).wf = true)) :
    ∃ LL : List (List Nat), LL.length = len ∧ RowsIn w a LL ∧ len ≤ maxLen ∧ ∀ X ∈ LL, X.length ≤ maxLen ∧ ∀ x ∈ X, x < 4294967296 := by
  rcases h with ⟨rfl, rfl, rfl⟩ | ⟨a, rfl, hl, hm, hr⟩
  · exact ⟨[], rfl, fun i X hX => by simp at hX, Nat.zero_le _, fun X hX => by cases hX⟩
  · have hs : ∀ i, i < len → ∃ y : Option Addr × Nat × List Nat, w.cell? (a.add i) = some (.slice y.1 y.2.2.length y.2.1) ∧ y.2.2.length ≤ y.2.1 ∧ Rd w 1 y.1 y.2.2.length (nv y.2.2) ∧ y.2.2.length ≤ maxLen ∧ ∀ x ∈ y.2.2, x < 4294967296 := fun i hi => by
      obtain ⟨A, L, C, zs, h1, h2⟩ := hr i hi
      obtain ⟨l, e1, e2, e3, e4, e5⟩ := row_nums w A L C zs h2
      exact ⟨(A, C, l), by rw [h1, e1], by rw [e1]; exact e3, by rw [e1]; exact e2, by rw [e1]; exact e4, e5⟩
    obtain ⟨Y, hY⟩ := choose_lt (α := Option Addr × Nat × List Nat) (p := fun i y => w.cell? (a.add i) = some (.slice y.1 y.2.2.length y.2.1) ∧ y.2.2.length ≤ y.2.1 ∧ Rd w 1 y.1 y.2.2.length (nv y.2.2) ∧ y.2.2.length ≤ maxLen ∧ ∀ x ∈ y.2.2, x < 4294967296) hs
    refine ⟨(List.range len).map fun i => (Y i).2.2, by simp, fun j X hX => ?_, Nat.le_trans hl hm, fun X hX => ?_⟩
    · rw [List.getElem?_map] at hX
      rcases Nat.lt_or_ge j len with hj | hj
      · rw [List.getElem?_range hj] at hX
        injection hX with hX
        obtain ⟨h1, h2, h3, _⟩ := hY j hj
        subst hX
        have := cell_in' h1
        rw [blk_add] at this
        exact ⟨a, (Y j).1, (Y j).2.1, rfl, this, h1, h2, h3⟩
      · rw [List.getElem?_eq_none (by simpa using hj)] at hX
        cases hX
    · obtain ⟨i, hi, rfl⟩ := List.mem_map.1 hX
      exact (hY i (List.mem_range.1 hi)).2.2.2
def Some01 (e : Ending) : Prop := ∃ b, e = .returned (.bool b)
set_option maxRecDepth 100000 in
set_option maxHeartbeats 1000000 in
theorem fits3 (w : World) (A : Option Addr) (n c : Nat) (LL : List (List Nat)) (hl : LL.length = n) (hR : RowsIn w A LL) (hm : n ≤ 9223372036854775807) :
    Calls Try.prog 4 #[.slice A n c] w fun e w' => Some01 e ∧ w = w' := by
  have HR := Lib.hid hR
  have HL := Lib.hid hl
  clear hR hl
  by_cases hbig : n ≤ 2147483647
  · have g1 : ¬ (2147483647 : Int) < (n : Int) := by omega
    go_enter Try.func4, Try.ntmps4
    go_wp2
    go_loop [4, 10] (fun v i => ∃ k : Nat, k ≤ n ∧ i = .int .i64 k) (fun _ i => n - (RowKit.intOf i).toNat)
    case atStart => exact ⟨0, Nat.zero_le _, rfl⟩
    case round =>
      obtain ⟨k, hk, rfl⟩ := hrel
      by_cases hlt : k < n
      · obtain ⟨X, hX⟩ : ∃ X, LL[k]? = some X := ⟨_, List.getElem?_eq_getElem (by rw [HL.out]; exact hlt)⟩
        obtain ⟨ad, B, d, rfl, hlb, hcell, hXd, hRd⟩ := HR.out k X hX
        generalize X.length = m at *
        clear hX hRd
        by_cases hb2 : m ≤ 2147483647
        · have g2 : ¬ (2147483647 : Int) < (m : Int) := by omega
          go_wp2
          go_round
          case rel => exact ⟨k + 1, by omega, by go_num⟩
          case measure => (first | (simp [RowKit.intOf]; done) | (simp [RowKit.intOf]; omega))
        · have g2 : (2147483647 : Int) < (m : Int) := by omega
          go_wp2
          go_ret
          exact ⟨⟨_, rfl⟩, rfl⟩
      · go_wp2
        go_ret
        exact ⟨⟨_, rfl⟩, rfl⟩
  · have g1 : (2147483647 : Int) < (n : Int) := by omega
    go_enter Try.func4, Try.ntmps4
    go_wp2
    go_ret
    exact ⟨⟨_, rfl⟩, rfl⟩
end Go.Proofs.Ytfkokngjclaikaa
