/- Rows of numbers that came in, and those that the laws look at. Conditions: lengths that an argument can have. -/
import Derived.Test.YtgnbeianlnepfaaDs
import Derived.Test.YtgnbeianlnepfaaDp
import Derived.OpenShut
namespace Go.Proofs.Ytgnbeianlnepfaa
open Go.RowKit Go.Lib Go.Deep
set_option linter.unusedVariables false
def RowsIn (w : World) (A : Option Addr) (LL : List (List Nat)) : Prop := ∀ (i : Nat) (X : List Nat), LL[i]? = some X → ∃ (ad : Addr) (B : Option Addr) (d : Nat), A = some ad ∧ ad.block < w.heap.size ∧ w.cell? (ad.add i) = some (.slice B X.length d) ∧ X.length ≤ d ∧ Rd w 1 B X.length (nv X)
theorem row_nums (w : World) (a : Option Addr) (len cap : Nat) (zs : List Int) (h : (a = none ∧ len = 0 ∧ cap = 0 ∧ zs = []) ∨ ∃ x, a = some x ∧ len ≤ cap ∧ cap ≤ maxLen ∧ zs.length = cap ∧ (∀ i, i < zs.length → w.cell? (x.add i) = some (.int .u32 (zs.getD i 0))) ∧ ∀ n ∈ zs, (Lit.int .u32 n).wf = true) :
    ∃ l : List Nat, l.length = len ∧ Rd w 1 a len (nv l) ∧ len ≤ cap ∧ len ≤ maxLen ∧ ∀ x ∈ l, x < 4294967296 := by
  rcases h with ⟨rfl, rfl, rfl, rfl⟩ | ⟨x, rfl, hlc, hm, hz, hcell, hwf⟩
  · exact ⟨[], rfl, Rd.none', Nat.le_refl _, Nat.zero_le _, fun x h => by cases h⟩
  · have hin : ∀ z ∈ zs, 0 ≤ z ∧ z < 4294967296 := fun z hz => by
      have hb := hwf z hz
      simp [Lit.wf, IntKind.min, IntKind.max, IntKind.signed, IntKind.bits] at hb
      omega
    refine ⟨(zs.take len).map fun z => z.toNat, by simp; omega, ⟨by simp [nv]; omega, fun hn => ?_⟩, hlc, Nat.le_trans hlc hm, fun y hy => ?_⟩
    · have hlt : x.block < w.heap.size := by
        have h0 := hcell 0 (by omega)
        have e0 : x.add 0 = x := by simp [Addr.add]
        rw [e0] at h0
        rcases Nat.lt_or_ge x.block w.heap.size with h | h
        · exact h
        · simp [World.cell?, Array.getElem?_eq_none h] at h0
      refine ⟨x, rfl, hlt, fun j u hu => ?_⟩
      simp only [nv, List.map_map, List.getElem?_map, Option.map_eq_some_iff] at hu
      obtain ⟨z, hz1, rfl⟩ := hu
      rw [List.getElem?_take] at hz1
      split at hz1
      case isFalse => cases hz1
      have hj : j < zs.length := by omega
      rw [hcell j hj]
      have hz2 : zs.getD j 0 = z := by rw [List.getD_eq_getElem?_getD, hz1]; rfl
      rw [hz2]
      have hb := hin z (List.mem_of_getElem? hz1)
      have e : ((z.toNat : Nat) : Int) = z := by omega
      simp only [Function.comp, e]
    · obtain ⟨z, hz1, rfl⟩ := List.mem_map.1 hy
      have := hin z (List.mem_of_mem_take hz1)
      omega
theorem rows_nums (w : World) (a : Option Addr) (len cap : Nat) (h : (a = none ∧ len = 0 ∧ cap = 0) ∨ ∃ x, a = some x ∧ len ≤ cap ∧ cap ≤ maxLen ∧ ∀ r, r < len → ∃ (A : Option Addr) (L C : Nat) (zs : List Int), w.cell? (x.add r) = some (.slice A L C) ∧ ((A = none ∧ L = 0 ∧ C = 0 ∧ zs = []) ∨ ∃ y, A = some y ∧ L ≤ C ∧ C ≤ maxLen ∧ zs.length = C ∧ (∀ i, i < zs.length → w.cell? (y.add i) = some (.int .u32 (zs.getD i 0))) ∧ ∀ n ∈ zs, (Lit.int .u32 n).wf = true)) :
    ∃ LL : List (List Nat), LL.length = len ∧ RowsIn w a LL ∧ len ≤ maxLen ∧ ∀ X ∈ LL, X.length ≤ maxLen ∧ ∀ x ∈ X, x < 4294967296 := by
  rcases h with ⟨rfl, rfl, rfl⟩ | ⟨a, rfl, hl, hm, hr⟩
  · exact ⟨[], rfl, fun i X hX => by simp at hX, Nat.zero_le _, fun X hX => by cases hX⟩
  · have hs : ∀ i, i < len → ∃ y : Option Addr × Nat × List Nat, w.cell? (a.add i) = some (.slice y.1 y.2.2.length y.2.1) ∧ y.2.2.length ≤ y.2.1 ∧ Rd w 1 y.1 y.2.2.length (nv y.2.2) ∧ y.2.2.length ≤ maxLen ∧ ∀ x ∈ y.2.2, x < 4294967296 := fun i hi => by
      obtain ⟨A, L, C, zs, h1, h2⟩ := hr i hi
      obtain ⟨l, e1, e2, e3, e4, e5⟩ := row_nums w A L C zs h2
      exact ⟨(A, C, l), by rw [h1, e1], by rw [e1]; exact e3, by rw [e1]; exact e2, by rw [e1]; exact e4, e5⟩
    obtain ⟨Y, hY⟩ := choose_lt (α := Option Addr × Nat × List Nat) (p := fun i y => w.cell? (a.add i) = some (.slice y.1 y.2.2.length y.2.1) ∧ y.2.2.length ≤ y.2.1 ∧ Rd w 1 y.1 y.2.2.length (nv y.2.2) ∧ y.2.2.length ≤ maxLen ∧ ∀ x ∈ y.2.2, x < 4294967296) hs
    refine ⟨(List.range len).map fun i => (Y i).2.2, by simp, fun j X hX => ?_, Nat.le_trans hl hm, fun X hX => ?_⟩
    · rw [List.getElem?_map] at hX
      rcases Nat.lt_or_ge j len with hj | hj
      · rw [List.getElem?_range hj] at hX
        injection hX with hX
        obtain ⟨h1, h2, h3, _⟩ := hY j hj
        subst hX
        have := cell_in' h1
        rw [blk_add] at this
        exact ⟨a, (Y j).1, (Y j).2.1, rfl, this, h1, h2, h3⟩
      · rw [List.getElem?_eq_none (by simpa using hj)] at hX
        cases hX
    · obtain ⟨i, hi, rfl⟩ := List.mem_map.1 hX
      exact (hY i (List.mem_range.1 hi)).2.2.2
def Some01 (e : Ending) : Prop := ∃ b, e = .returned (.bool b)
set_option maxRecDepth 100000 in
set_option maxHeartbeats 1000000 in
theorem fits3 (w : World) (A : Option Addr) (n c : Nat) (LL : List (List Nat)) (hl : LL.length = n) (hR : RowsIn w A LL) (hm : n ≤ 9223372036854775807) :
    Calls Try.prog 21 #[.slice A n c] w fun e w' => Some01 e ∧ w = w' := by
  have HR := Lib.hid hR
  have HL := Lib.hid hl
  clear hR hl
  by_cases hbig : n ≤ 2147483647
  · have g1 : ¬ (2147483647 : Int) < (n : Int) := by omega
    go_enter Try.func21, Try.ntmps21
    go_wp2
    go_loop [4, 10] (fun v i => ∃ k : Nat, k ≤ n ∧ i = .int .i64 k) (fun _ i => n - (RowKit.intOf i).toNat)
    case atStart => exact ⟨0, Nat.zero_le _, rfl⟩
    case round =>
      obtain ⟨k, hk, rfl⟩ := hrel
      by_cases hlt : k < n
      · obtain ⟨X, hX⟩ : ∃ X, LL[k]? = some X := ⟨_, List.getElem?_eq_getElem (by rw [HL.out]; exact hlt)⟩
        obtain ⟨ad, B, d, rfl, hlb, hcell, hXd, hRd⟩ := HR.out k X hX
        generalize X.length = m at *
        clear hX hRd
        by_cases hb2 : m ≤ 2147483647
        · have g2 : ¬ (2147483647 : Int) < (m : Int) := by omega
          go_wp2
          go_round
          case rel => exact ⟨k + 1, by omega, by go_num⟩
          case measure => (first | (simp [RowKit.intOf]; done) | (simp [RowKit.intOf]; omega))
        · have g2 : (2147483647 : Int) < (m : Int) := by omega
          go_wp2
          go_ret
          exact ⟨⟨_, rfl⟩, rfl⟩
      · go_wp2
        go_ret
        exact ⟨⟨_, rfl⟩, rfl⟩
  · have g1 : (2147483647 : Int) < (n : Int) := by omega
    go_enter Try.func21, Try.ntmps21
    go_wp2
    go_ret
    exact ⟨⟨_, rfl⟩, rfl⟩
def VRows (w : World) (VS : List Value) (R : List (List Nat)) : Prop := VS.length = R.length ∧ ∀ (i : Nat) (X : List Nat), R[i]? = some X → ∃ (B : Option Addr) (d : Nat), VS[i]? = some (.slice B X.length d) ∧ Rd w 1 B X.length (nv X)
theorem VRows.nil (w : World) : VRows w [] [] := ⟨rfl, fun i xs h => by simp at h⟩
theorem VRows.keeps {w w' : World} {VS : List Value} {R : List (List Nat)} (h : VRows w VS R) (hk : Keeps (fun _ => False) w w') : VRows w' VS R := ⟨h.1, fun i X hX => by
  obtain ⟨B, d, h1, h2⟩ := h.2 i X hX
  exact ⟨B, d, h1, h2.keeps hk (fun _ _ h => h)⟩⟩
theorem VRows.snoc {w : World} {VS : List Value} {R : List (List Nat)} {X : List Nat} {B : Option Addr} {m d : Nat} (h : VRows w VS R) (hm : X.length = m) (hR : Rd w 1 B m (nv X)) : VRows w (VS ++ [.slice B m d]) (R ++ [X]) := by
  subst hm
  refine ⟨by simp [h.1], fun i Y hY => ?_⟩
  rcases Nat.lt_or_ge i R.length with hi | hi
  · rw [List.getElem?_append_left hi] at hY
    obtain ⟨B', d', h1, h2⟩ := h.2 i Y hY
    exact ⟨B', d', by rw [List.getElem?_append_left (by rw [h.1]; exact hi)]; exact h1, h2⟩
  · rw [List.getElem?_append_right hi] at hY
    have hi0 : i - R.length = 0 := by
      rcases Nat.eq_zero_or_pos (i - R.length) with h0 | h0
      · exact h0
      · rw [List.getElem?_eq_none (by simp; omega)] at hY; cases hY
    rw [hi0] at hY
    injection hY with hY
    subst hY
    refine ⟨B, d, ?_, hR⟩
    rw [List.getElem?_append_right (by rw [h.1]; exact hi), h.1, hi0]
    rfl
theorem VRows.rows {w : World} {base n c : Nat} {e : TypeId} {A : Option Addr} {VS : List Value} {R : List (List Nat)} (h : VRows w VS R) (hown : w.ownsRow base e 1 (.slice A n c) n VS) : NumsOf w A R := fun i xs hx => by
  rw [List.getElem?_map, Option.map_eq_some_iff] at hx
  obtain ⟨X, hX, rfl⟩ := hx
  obtain ⟨B, d, h1, h2⟩ := h.2 i X hX
  have hn : 0 < n := by
    have h1' := hown.1
    have := (List.getElem?_eq_some_iff.1 h1).1
    omega
  obtain ⟨ad, e, hb, hc⟩ := (Rd.own hown).2 hn
  have hlx : (nv X).length = X.length := by simp [nv]
  rw [hlx]
  exact ⟨ad, B, d, e, hb, hc i _ h1, h2⟩
theorem Rd.first' {w : World} {n k : Nat} {A : Option Addr} {xs : List Value} (h : Rd w 1 A n xs) (hk : k ≤ n) : Rd w 1 A k (xs.take k) := by
  obtain ⟨h1, h2⟩ := h
  refine ⟨by rw [List.length_take]; omega, fun h0 => ?_⟩
  obtain ⟨ad, e, hb, hc⟩ := h2 (by omega)
  exact ⟨ad, e, hb, fun j u hu => hc j u (by
    rw [List.getElem?_take] at hu
    split at hu
    · exact hu
    · cases hu)⟩
/-- The rows that the laws look at. -/
def numsOf (LL : List (List Nat)) : List (List Nat) := (LL.take 20).map (List.take 12) ++ [[1, 4275878552]]
theorem take12_step {LL : List (List Nat)} {k : Nat} {X : List Nat} (h : LL[k]? = some X) : (LL.take (k + 1)).map (List.take 12) = (LL.take k).map (List.take 12) ++ [X.take 12] := by
  rw [List.take_add_one, h]; simp
def NumRowsRes (w : World) (LL : List (List Nat)) (n : Nat) (e : Ending) (w' : World) : Prop := ∃ A' c', e = .returned (.slice A' n c') ∧ NumsOf w' A' LL ∧ Keeps (fun _ => False) w w'
set_option maxRecDepth 100000 in
set_option maxHeartbeats 2000000 in
theorem arNumsLaw (w : World) (A : Option Addr) (n c : Nat) (LL : List (List Nat)) (hl : LL.length = n) (hR : RowsIn w A LL) (hn : n ≤ 9223372036854775807) (hi : ∀ X ∈ LL, X.length ≤ 9223372036854775807) :
    Calls Try.prog 22 #[.slice A n c] w fun e w' => NumRowsRes w (numsOf LL) (numsOf LL).length e w' := by
  obtain ⟨i0, hi0, hz0, hz1, hz2⟩ := info_parts infoSlN
  have HR := Lib.hid hR
  have HL := Lib.hid hl
  have HI := Lib.hid hi
  clear hR hl hi
  go_enter Try.func22, Try.ntmps22
  go_wp2_with fail
  go_loopw [3, 4, 5] (fun v i _ wr => ∃ (k : Nat) (A1 : Option Addr) (c1 : Nat) (VS : List Value), k ≤ n ∧ k ≤ 20 ∧ i = .int .i64 k ∧ v = .slice A1 k c1 ∧ wr.ownsRow w.heap.size 23 1 (.slice A1 k c1) k VS ∧ VRows w VS ((LL.take k).map (List.take 12)) ∧ Keeps (fun _ => False) w wr) (fun _ i _ _ => 20 - (RowKit.intOf i).toNat)
  case atStart => exact ⟨0, none, 0, [], Nat.zero_le _, Nat.zero_le _, rfl, rfl, World.ownsRow_nil w w.heap.size 23 1, VRows.nil _, Keeps.refl _ _⟩
  case round =>
    obtain ⟨k, A1, c1, VS, hk, hk20, rfl, rfl, hown, hVR, hK⟩ := hrel
    have HVR := Lib.hid hVR
    clear hVR
    by_cases hlt : k < n ∧ k < 20
    · obtain ⟨hlt, hlm⟩ := hlt
      have l1 : (k : Int) < (n : Int) := by omega
      have l2 : (k : Int) < (20 : Int) := by omega
      obtain ⟨X, hX⟩ : ∃ X, LL[k]? = some X := ⟨_, List.getElem?_eq_getElem (by rw [HL.out]; exact hlt)⟩
      have HT := Lib.hid (take12_step hX)
      have hXm := HI.out X (List.mem_of_getElem? hX)
      obtain ⟨ad, B, d, rfl, hlb, hcell0, hXd, hRd⟩ := HR.out k X hX
      have hcell : wr.cell? (ad.add k) = some (.slice B X.length d) := (hK.cell (by rw [blk_add]; exact hlb) (fun h => h)).trans hcell0
      have HRd := Lib.hid hRd
      clear hX hcell0 hRd
      by_cases h12 : 12 < X.length
      · have g2 : (12 : Int) < (X.length : Int) := by omega
        have HV2 := Lib.hid (HVR.out.snoc (X := X.take 12) (B := B) (m := 12) (d := d) (by rw [List.length_take]; omega) (by have := HRd.out.first' (k := 12) (by omega); rw [nv, ← List.map_take] at this; exact this))
        have hKa := hK.alloc (.cells #[.slice B 12 d] 23)
        have howna := own_keeps hown ((Keeps.refl (fun _ => False) wr).alloc (.cells #[.slice B 12 d] 23)) (fun _ _ h => h)
        generalize hmx : X.length = mx at *
        have h12d : 12 ≤ d := by omega
        go_wp2_with (at_builtin
                     refine wpList_append_rd _ rfl (.tmp 25) (.tmp 27) _ rfl w.heap.size 23 i0 _ 1 24 Try.underlying47 hi0 hz0 hz1 hz2 rfl Nat.one_pos A1 c1 k _ rfl howna (some ⟨wr.heap.size, 0, none⟩) 1 1 [.slice B 12 d] rfl (rd_one wr 23 _) (one_val _ rfl) (by simp only [maxLen]; omega) (by omega) hKa.size ?_
                     intro A3 c3 w3 hown3 hg3 hat3)
        have hK3 := hKa.grown hg3 (fun i hi => .inr (howna.lt i (by rw [ownBlock_slice]; exact hi)).1)
        go_roundw
        case rel => exact ⟨k + 1, A3, c3, _, by omega, by omega, by go_num, rfl, hown3, by rw [HT.out]; exact HV2.out, hK3⟩
        case measure => (first | (simp [RowKit.intOf]; done) | (simp [RowKit.intOf]; omega))
      · have g2 : ¬ (12 : Int) < (X.length : Int) := by omega
        have HV2 := Lib.hid (HVR.out.snoc (X := X.take 12) (B := B) (m := X.length) (d := d) (by rw [List.length_take]; omega) (by rw [List.take_of_length_le (by omega)]; exact HRd.out))
        have hKa := hK.alloc (.cells #[.slice B X.length d] 23)
        have howna := own_keeps hown ((Keeps.refl (fun _ => False) wr).alloc (.cells #[.slice B X.length d] 23)) (fun _ _ h => h)
        generalize hmx : X.length = mx at *
        go_wp2_with (at_builtin
                     refine wpList_append_rd _ rfl (.tmp 25) (.tmp 27) _ rfl w.heap.size 23 i0 _ 1 24 Try.underlying47 hi0 hz0 hz1 hz2 rfl Nat.one_pos A1 c1 k _ rfl howna (some ⟨wr.heap.size, 0, none⟩) 1 1 [.slice B mx d] rfl (rd_one wr 23 _) (one_val _ rfl) (by simp only [maxLen]; omega) (by omega) hKa.size ?_
                     intro A3 c3 w3 hown3 hg3 hat3)
        have hK3 := hKa.grown hg3 (fun i hi => .inr (howna.lt i (by rw [ownBlock_slice]; exact hi)).1)
        go_roundw
        case rel => exact ⟨k + 1, A3, c3, _, by omega, by omega, by go_num, rfl, hown3, by rw [HT.out]; exact HV2.out, hK3⟩
        case measure => (first | (simp [RowKit.intOf]; done) | (simp [RowKit.intOf]; omega))
    · have HE := Lib.hid (show LL.take 20 = LL.take k by
        by_cases e : k = 20
        · rw [e]
        · have : k = n := by omega
          rw [List.take_of_length_le (by rw [HL.out]; omega), List.take_of_length_le (by rw [HL.out]; omega)])
      have HKL := Lib.hid (show (numsOf LL).length = k + 1 by rw [numsOf, List.length_append, List.length_map, HE.out, List.length_take, HL.out]; simp; omega)
      have hnot : (k : Int) < (n : Int) → ¬ (k : Int) < (20 : Int) := by omega
      clear hlt
      have KX := (Keeps.refl (fun _ => False) wr).alloc (.cells #[.int .u32 1, .int .u32 4275878552] 30)
      have hWX := Whole.new wr 30 #[.int .u32 1, .int .u32 4275878552]
      have hsx : (World.heap (wr.alloc (.cells #[.int .u32 1, .int .u32 4275878552] 30))).size = wr.heap.size + 1 := by simp
      have KY := (Keeps.refl (fun _ => False) (wr.alloc (.cells #[.int .u32 1, .int .u32 4275878552] 30))).alloc (.cells #[.slice (some ⟨wr.heap.size, 0, none⟩) 2 2] 23)
      have hRX : Rd (wr.alloc (.cells #[.int .u32 1, .int .u32 4275878552] 30)) 1 (some ⟨wr.heap.size, 0, none⟩) 2 (nv [1, 4275878552]) := Rd.whole hWX rfl rfl
      have hKX := hK.trans KX (fun _ _ h => h)
      have hKY := hKX.trans KY (fun _ _ h => h)
      have howna := own_keeps (own_keeps hown KX (fun _ _ h => h)) KY (fun _ _ h => h)
      have HRX := Lib.hid (hRX.keeps KY (fun _ _ h => h))
      have HA1 := Lib.hid (show ∀ q, ob A1 = some q → q < wr.heap.size from fun q hq => (hown.lt q (by rw [ownBlock_slice]; exact hq)).2)
      have HRO := Lib.hid (rd_one (wr.alloc (.cells #[.int .u32 1, .int .u32 4275878552] 30)) 23 (.slice (some ⟨wr.heap.size, 0, none⟩) 2 2))
      have HO := Lib.hid howna
      rw [hsx] at HRO
      have HKY := Lib.hid hKY
      have HSY := Lib.hid hKY.size
      clear howna hRX KX KY hWX hKX hKY hsx
      have HEND := Lib.hid (show ∀ (A3 : Option Addr) (c3 : Nat) (w3 : World), w3.ownsRow w.heap.size 23 1 (.slice A3 (k + 1) c3) (k + 1) (VS ++ [.slice (some ⟨wr.heap.size, 0, none⟩) 2 2]) → ((wr.alloc (.cells #[.int .u32 1, .int .u32 4275878552] 30)).alloc (.cells #[.slice (some ⟨wr.heap.size, 0, none⟩) 2 2] 23)).grownBy w3 (ob A1) → NumRowsRes w (numsOf LL) (numsOf LL).length (.returned (.slice A3 (k + 1) c3)) w3 from fun A3 c3 w3 h1 h2 => by
        have K := (Keeps.refl (fun i => ob A1 = some i) _).grown h2 (fun k hk => .inl hk)
        have hlow := HO.out.lt
        rw [ownBlock_slice] at hlow
        rw [HKL.out]
        have KF := HKY.out.grown h2 (fun i hi => .inr (hlow i hi).1)
        refine ⟨A3, c3, rfl, VRows.rows ?_ h1, KF⟩
        rw [numsOf, HE.out]
        exact (HVR.out.keeps KF).snoc rfl (HRX.out.keeps K (fun q hq e => by
          simp [ob] at hq
          subst hq
          have := HA1.out _ e
          omega)))
      by_cases q1 : (k : Int) < (n : Int)
      · have q2 : ¬ (k : Int) < (20 : Int) := hnot q1
        clear hnot
        go_wp2_with (at_builtin
                     refine wpList_append_rd _ rfl (.tmp 29) (.tmp 31) _ rfl w.heap.size 23 i0 _ 1 24 Try.underlying47 hi0 hz0 hz1 hz2 rfl Nat.one_pos A1 c1 k _ rfl HO.out (some ⟨wr.heap.size + 1, 0, none⟩) 1 1 [.slice (some ⟨wr.heap.size, 0, none⟩) 2 2] rfl HRO.out (one_val _ rfl) (by simp only [maxLen]; omega) (by omega) HSY.out ?_
                     intro A3 c3 w3 hown3 hg3 hat3)
        go_ret
        exact HEND.out A3 c3 w3 hown3 hg3
      · clear hnot
        go_wp2_with (at_builtin
                     refine wpList_append_rd _ rfl (.tmp 29) (.tmp 31) _ rfl w.heap.size 23 i0 _ 1 24 Try.underlying47 hi0 hz0 hz1 hz2 rfl Nat.one_pos A1 c1 k _ rfl HO.out (some ⟨wr.heap.size + 1, 0, none⟩) 1 1 [.slice (some ⟨wr.heap.size, 0, none⟩) 2 2] rfl HRO.out (one_val _ rfl) (by simp only [maxLen]; omega) (by omega) HSY.out ?_
                     intro A3 c3 w3 hown3 hg3 hat3)
        go_ret
        exact HEND.out A3 c3 w3 hown3 hg3
end Go.Proofs.Ytgnbeianlnepfaa
