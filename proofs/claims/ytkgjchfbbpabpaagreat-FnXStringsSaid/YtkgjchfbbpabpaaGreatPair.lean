/- Slices of pairs of strings, and slices of these, as lists; the guards on their sizes. Conditions: what was read as data. -/
import Derived.Test.YtkgjchfbbpabpaaGreatOpen
import Derived.Test.YtkgjchfbbpabpaaGreatArS
namespace Go.Proofs.YtkgjchfbbpabpaaGreat
open Go.RowKit Go.Deep Go.Lib
set_option linter.unusedVariables false
abbrev Pr := ByteArray × ByteArray
/-- The cells of pairs. -/
def prC : List Pr → List Value
  | [] => []
  | p :: r => .string p.1 :: .string p.2 :: prC r
theorem prC_length : ∀ (L : List Pr), (prC L).length = L.length * 2
  | [] => rfl
  | p :: r => by rw [prC, List.length_cons, List.length_cons, prC_length, List.length_cons]; omega
theorem prC_append : ∀ (L M : List Pr), prC (L ++ M) = prC L ++ prC M
  | [], _ => rfl
  | p :: r, M => by rw [List.cons_append, prC, prC_append, prC]; rfl
theorem prC_get : ∀ (L : List Pr) (i : Nat) (p : Pr), L[i]? = some p → (prC L)[i * 2]? = some (.string p.1) ∧ (prC L)[i * 2 + 1]? = some (.string p.2)
  | [], i, p, h => by simp at h
  | a :: r, 0, p, h => by
    simp at h
    subst h
    simp [prC]
  | a :: r, i + 1, p, h => by
    have h' : r[i]? = some p := by simpa using h
    obtain ⟨h1, h2⟩ := prC_get r i p h'
    rw [show (i + 1) * 2 = i * 2 + 1 + 1 by omega, prC, List.getElem?_cons_succ, List.getElem?_cons_succ, h1, List.getElem?_cons_succ, List.getElem?_cons_succ, h2]
    exact ⟨rfl, rfl⟩
theorem prC_one : ∀ (L : List Pr), ∀ u ∈ prC L, u.oneCell' = true
  | [], u, h => by simp [prC] at h
  | p :: r, u, h => by
    rw [prC] at h
    rcases List.mem_cons.1 h with rfl | h
    · rfl
    rcases List.mem_cons.1 h with rfl | h
    · rfl
    · exact prC_one r u h
theorem prC_snoc (L : List Pr) (p : Pr) : prC (L ++ [p]) = prC L ++ [.string p.1, .string p.2] := by rw [prC_append]; rfl
/-- A slice that reads as rows of pairs. -/
def RowsP (w : World) (A : Option Addr) (PP : List (List Pr)) : Prop := ∀ (i : Nat) (L : List Pr), PP[i]? = some L → ∃ (ad : Addr) (B : Option Addr) (d : Nat), A = some ad ∧ ad.block < w.heap.size ∧ w.cell? (ad.add i) = some (.slice B L.length d) ∧ Rd w 2 B L.length (prC L)
theorem RowsP.keeps {w w' : World} {A : Option Addr} {PP : List (List Pr)} (h : RowsP w A PP) (hk : Keeps (fun _ => False) w w') : RowsP w' A PP := fun i L hL => by
  obtain ⟨ad, B, d, e, hl, hc, hr⟩ := h i L hL
  exact ⟨ad, B, d, e, Nat.lt_of_lt_of_le hl hk.size, (hk.cell (by rw [blk_add]; exact hl) (fun h => h)).trans hc, hr.keeps hk (fun _ _ h => h)⟩
/-- The cells of a pair that such a slice holds. -/
theorem Rd.pair {w : World} {A : Option Addr} {n k : Nat} {L : List Pr} (h : Rd w 2 A n (prC L)) (hl : L.length = n) (hk : k < n) : ∃ ad p, A = some ad ∧ ad.block < w.heap.size ∧ L[k]? = some p ∧ w.cell? (ad.add (k * 2)) = some (.string p.1) ∧ w.cell? (ad.add (k * 2 + 1)) = some (.string p.2) := by
  obtain ⟨ad, e, hb, hc⟩ := h.2 (by omega)
  have hkl : k < L.length := by omega
  obtain ⟨h1, h2⟩ := prC_get L k L[k] (List.getElem?_eq_getElem hkl)
  exact ⟨ad, L[k], e, hb, List.getElem?_eq_getElem hkl, hc _ _ h1, hc _ _ h2⟩
/-- While rows of pairs are made. -/
def RPB (w : World) (A : Option Addr) (VS : List Value) (PP : List (List Pr)) : Prop := VS.length = PP.length ∧ ∀ (i : Nat) (L : List Pr), PP[i]? = some L → ∃ (B : Option Addr) (d : Nat), VS[i]? = some (.slice B L.length d) ∧ Rd w 2 B L.length (prC L) ∧ ∀ q, ob B = some q → q < w.heap.size ∧ ob A ≠ some q
theorem RPB.nil (w : World) (A : Option Addr) : RPB w A [] [] := ⟨rfl, fun i xs h => by simp at h⟩
theorem RPB.keeps {w w' : World} {A : Option Addr} {VS : List Value} {PP : List (List Pr)} (h : RPB w A VS PP) (hk : Keeps (fun _ => False) w w') : RPB w' A VS PP := ⟨h.1, fun i xs hx => by
  obtain ⟨B, d, h1, h2, h3⟩ := h.2 i xs hx
  exact ⟨B, d, h1, h2.keeps hk (fun _ _ h => h), fun q hq => ⟨Nat.lt_of_lt_of_le (h3 q hq).1 hk.size, (h3 q hq).2⟩⟩⟩
theorem RPB.snoc {w w' : World} {A A' B : Option Addr} {VS : List Value} {PP : List (List Pr)} {L : List Pr} {d : Nat} (h : RPB w A VS PP) (hR : Rd w 2 B L.length (prC L)) (hB : ∀ q, ob B = some q → q < w.heap.size ∧ ob A ≠ some q)
    (hg : w.grownBy w' (ob A)) (hat : ob A' = ob A ∨ ob A' = some w.heap.size) : RPB w' A' (VS ++ [.slice B L.length d]) (PP ++ [L]) := by
  have hk : Keeps (fun i => ob A = some i) w w' := (Keeps.refl _ w).grown hg (fun k hk => .inl hk)
  have fin : ∀ (B : Option Addr), (∀ q, ob B = some q → q < w.heap.size ∧ ob A ≠ some q) → ∀ q, ob B = some q → q < w'.heap.size ∧ ob A' ≠ some q := fun B hB q hq => by
    obtain ⟨h1, h2⟩ := hB q hq
    refine ⟨Nat.lt_of_lt_of_le h1 hk.size, ?_⟩
    rcases hat with e | e
    · rw [e]; exact h2
    · rw [e]
      intro e2
      injection e2 with e2
      omega
  refine ⟨by simp [h.1], fun i ys hy => ?_⟩
  rcases Nat.lt_or_ge i PP.length with hi | hi
  · rw [List.getElem?_append_left hi] at hy
    obtain ⟨B', d', h1, h2, h3⟩ := h.2 i ys hy
    exact ⟨B', d', by rw [List.getElem?_append_left (by rw [h.1]; exact hi)]; exact h1, h2.keeps hk (fun k hk2 hk3 => (h3 k hk2).2 hk3), fin B' h3⟩
  · rw [List.getElem?_append_right hi] at hy
    have hi0 : i - PP.length = 0 := by
      rcases Nat.eq_zero_or_pos (i - PP.length) with h0 | h0
      · exact h0
      · rw [List.getElem?_eq_none (by simp; omega)] at hy; cases hy
    rw [hi0] at hy
    injection hy with hy
    subst hy
    refine ⟨B, d, ?_, hR.keeps hk (fun k hk2 hk3 => (hB k hk2).2 hk3), fin B hB⟩
    rw [List.getElem?_append_right (by rw [h.1]; exact hi), h.1, hi0]
    rfl
theorem RPB.rows {w : World} {base n c : Nat} {e : TypeId} {A : Option Addr} {VS : List Value} {PP : List (List Pr)} (h : RPB w A VS PP) (hown : w.ownsRow base e 1 (.slice A n c) n VS) : RowsP w A PP := fun i xs hx => by
  obtain ⟨B, d, h1, h2, _⟩ := h.2 i xs hx
  have hn : 0 < n := by
    have h1' := hown.1
    have := (List.getElem?_eq_some_iff.1 h1).1
    omega
  obtain ⟨ad, e, hb, hc⟩ := (Rd.own hown).2 hn
  exact ⟨ad, B, d, e, hb, hc i _ h1, h2⟩

def SomeB2 (e : Ending) : Prop := ∃ b, e = .returned (.bool b)
set_option maxRecDepth 100000 in
theorem fits10 (w : World) (x y : ByteArray) :
    Calls Tryz.prog 57 #[.agg #[.string x, .string y]] w fun e w' => SomeB2 e ∧ Keeps (fun _ => False) w w' := by
  by_cases h1 : 2147483647 < x.size
  · have g1 : (2147483647 : Int) < (x.size : Int) := by omega
    go_enter Tryz.func57, Tryz.ntmps57
    go_wp2
    go_ret
    exact ⟨⟨_, rfl⟩, (Keeps.refl _ _).alloc _⟩
  · have g1 : ¬ (2147483647 : Int) < (x.size : Int) := by omega
    by_cases h2 : 2147483647 < y.size
    · have g2 : (2147483647 : Int) < (y.size : Int) := by omega
      go_enter Tryz.func57, Tryz.ntmps57
      go_wp2
      go_ret
      exact ⟨⟨_, rfl⟩, (Keeps.refl _ _).alloc _⟩
    · have g2 : ¬ (2147483647 : Int) < (y.size : Int) := by omega
      go_enter Tryz.func57, Tryz.ntmps57
      go_wp2
      go_ret
      exact ⟨⟨_, rfl⟩, (Keeps.refl _ _).alloc _⟩

set_option maxRecDepth 100000 in
set_option maxHeartbeats 1000000 in
theorem fits9 (w : World) (A : Option Addr) (n c : Nat) (L : List Pr) (hl : L.length = n) (hR : Rd w 2 A n (prC L)) (hm : n ≤ 9223372036854775807) :
    Calls Tryz.prog 26 #[.slice A n c] w fun e w' => SomeB2 e ∧ Keeps (fun _ => False) w w' := by
  have HR := Lib.hid hR
  have HL := Lib.hid hl
  clear hR hl
  by_cases hbig : n ≤ 2147483647
  · have g1 : ¬ (2147483647 : Int) < (n : Int) := by omega
    go_enter Tryz.func26, Tryz.ntmps26
    go_wp2
    go_loopw [4, 10] (fun v i wr => ∃ k : Nat, k ≤ n ∧ i = .int .i64 k ∧ Keeps (fun _ => False) w wr) (fun _ i _ => n - (RowKit.intOf i).toNat)
    case atStart => exact ⟨0, Nat.zero_le _, rfl, Keeps.refl _ _⟩
    case round =>
      obtain ⟨k, hk, rfl, hK⟩ := hrel
      by_cases hlt : k < n
      · obtain ⟨ad, ⟨x, y⟩, rfl, hb, hp, hc1, hc2⟩ := Rd.pair (HR.out.keeps hK (fun _ _ h => h)) HL.out hlt
        dsimp only at hc1 hc2
        have hc3 : wr.cell? { block := (ad.add (k * 2)).block, off := (ad.add (k * 2)).off + 1 } = some (.string y) := by rw [← Addr.add_add] at hc2; exact hc2
        have HF := Lib.hid (fits10 (wr.alloc (.cells #[.string x, .string y] 40)) x y)
        have HK := Lib.hid (hK.alloc (.cells #[.string x, .string y] 40))
        clear hp hK
        go_wp2_with fail
        refine HF.out.mono ?_
        rintro e w1 ⟨⟨b, rfl⟩, K1⟩
        have HK1 := Lib.hid (HK.out.trans K1 (fun _ _ h => h))
        clear K1
        cases b with
        | true =>
          go_wp2_with fail
          go_roundw
          case rel => exact ⟨k + 1, by omega, by go_num, HK1.out⟩
          case measure => (first | (simp [RowKit.intOf]; done) | (simp [RowKit.intOf]; omega))
        | false =>
          go_wp2_with fail
          go_ret
          exact ⟨⟨_, rfl⟩, HK1.out⟩
      · go_wp2
        go_ret
        exact ⟨⟨_, rfl⟩, hK⟩
  · have g1 : (2147483647 : Int) < (n : Int) := by omega
    go_enter Tryz.func26, Tryz.ntmps26
    go_wp2
    go_ret
    exact ⟨⟨_, rfl⟩, Keeps.refl _ _⟩

set_option maxRecDepth 100000 in
set_option maxHeartbeats 1000000 in
theorem fits8 (w : World) (A : Option Addr) (n c : Nat) (PP : List (List Pr)) (hl : PP.length = n) (hR : RowsP w A PP) (hi : ∀ X ∈ PP, X.length ≤ 9223372036854775807) (hm : n ≤ 9223372036854775807) :
    Calls Tryz.prog 12 #[.slice A n c] w fun e w' => SomeB2 e ∧ Keeps (fun _ => False) w w' := by
  have HR := Lib.hid hR
  have HL := Lib.hid hl
  clear hR hl
  by_cases hbig : n ≤ 2147483647
  · have g1 : ¬ (2147483647 : Int) < (n : Int) := by omega
    go_enter Tryz.func12, Tryz.ntmps12
    go_wp2
    go_loopw [4, 10] (fun v i wr => ∃ k : Nat, k ≤ n ∧ i = .int .i64 k ∧ Keeps (fun _ => False) w wr) (fun _ i _ => n - (RowKit.intOf i).toNat)
    case atStart => exact ⟨0, Nat.zero_le _, rfl, Keeps.refl _ _⟩
    case round =>
      obtain ⟨k, hk, rfl, hK⟩ := hrel
      have HK := Lib.hid hK
      clear hK
      by_cases hlt : k < n
      · obtain ⟨X, hX⟩ : ∃ X, PP[k]? = some X := ⟨_, List.getElem?_eq_getElem (by rw [HL.out]; exact hlt)⟩
        obtain ⟨ad, B, d, rfl, hlb, hcell, hRd⟩ := (HR.out.keeps HK.out) k X hX
        have H2 := Lib.hid (fits9 wr B X.length d X rfl hRd (hi X (List.mem_of_getElem? hX)))
        clear hX hRd
        go_wp2_with fail
        refine H2.out.mono ?_
        rintro e w1 ⟨⟨b, rfl⟩, K1⟩
        have HK1 := Lib.hid (HK.out.trans K1 (fun _ _ h => h))
        clear K1
        cases b with
        | true =>
          go_wp2_with fail
          go_roundw
          case rel => exact ⟨k + 1, by omega, by go_num, HK1.out⟩
          case measure => (first | (simp [RowKit.intOf]; done) | (simp [RowKit.intOf]; omega))
        | false =>
          go_wp2_with fail
          go_ret
          exact ⟨⟨_, rfl⟩, HK1.out⟩
      · go_wp2
        go_ret
        exact ⟨⟨_, rfl⟩, HK.out⟩
  · have g1 : (2147483647 : Int) < (n : Int) := by omega
    go_enter Tryz.func12, Tryz.ntmps12
    go_wp2
    go_ret
    exact ⟨⟨_, rfl⟩, Keeps.refl _ _⟩
end Go.Proofs.YtkgjchfbbpabpaaGreat
