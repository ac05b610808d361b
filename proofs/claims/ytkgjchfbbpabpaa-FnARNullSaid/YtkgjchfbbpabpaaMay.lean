/- Slices of values that are set or not, as lists; the guards on their sizes; the values that the laws look at. Conditions: what was read as data. -/
import Derived.Test.YtkgjchfbbpabpaaOpen
import Derived.Test.YtkgjchfbbpabpaaArL
import Derived.Test.YtkgjchfbbpabpaaAe
namespace Go.Proofs.Ytkgjchfbbpabpaa
open Go.RowKit Go.Deep Go.Lib
set_option linter.unusedVariables false
abbrev Mb := Bool × ByteArray
/-- The cells of values, set or not. -/
def mbC : List Mb → List Value
  | [] => []
  | p :: r => .bool p.1 :: .string p.2 :: mbC r
theorem mbC_length : ∀ (L : List Mb), (mbC L).length = L.length * 2
  | [] => rfl
  | p :: r => by rw [mbC, List.length_cons, List.length_cons, mbC_length, List.length_cons]; omega
theorem mbC_append : ∀ (L M : List Mb), mbC (L ++ M) = mbC L ++ mbC M
  | [], _ => rfl
  | p :: r, M => by rw [List.cons_append, mbC, mbC_append, mbC]; rfl
theorem mbC_get : ∀ (L : List Mb) (i : Nat) (p : Mb), L[i]? = some p → (mbC L)[i * 2]? = some (.bool p.1) ∧ (mbC L)[i * 2 + 1]? = some (.string p.2)
  | [], i, p, h => by simp at h
  | a :: r, 0, p, h => by
    simp at h
    subst h
    simp [mbC]
  | a :: r, i + 1, p, h => by
    have h' : r[i]? = some p := by simpa using h
    obtain ⟨h1, h2⟩ := mbC_get r i p h'
    rw [show (i + 1) * 2 = i * 2 + 1 + 1 by omega, mbC, List.getElem?_cons_succ, List.getElem?_cons_succ, h1, List.getElem?_cons_succ, List.getElem?_cons_succ, h2]
    exact ⟨rfl, rfl⟩
theorem mbC_one : ∀ (L : List Mb), ∀ u ∈ mbC L, u.oneCell' = true
  | [], u, h => by simp [mbC] at h
  | p :: r, u, h => by
    rw [mbC] at h
    rcases List.mem_cons.1 h with rfl | h
    · rfl
    rcases List.mem_cons.1 h with rfl | h
    · rfl
    · exact mbC_one r u h
theorem mbC_snoc (L : List Mb) (p : Mb) : mbC (L ++ [p]) = mbC L ++ [.bool p.1, .string p.2] := by rw [mbC_append]; rfl
/-- The cells of a value that such a slice holds. -/
theorem Rd.maybe {w : World} {A : Option Addr} {n k : Nat} {L : List Mb} (h : Rd w 2 A n (mbC L)) (hl : L.length = n) (hk : k < n) : ∃ ad p, A = some ad ∧ ad.block < w.heap.size ∧ L[k]? = some p ∧ w.cell? (ad.add (k * 2)) = some (.bool p.1) ∧ w.cell? (ad.add (k * 2 + 1)) = some (.string p.2) := by
  obtain ⟨ad, e, hb, hc⟩ := h.2 (by omega)
  have hkl : k < L.length := by omega
  obtain ⟨h1, h2⟩ := mbC_get L k L[k] (List.getElem?_eq_getElem hkl)
  exact ⟨ad, L[k], e, hb, List.getElem?_eq_getElem hkl, hc _ _ h1, hc _ _ h2⟩
def SomeB3 (e : Ending) : Prop := ∃ b, e = .returned (.bool b)
set_option maxRecDepth 100000 in
theorem fits6 (w : World) (x : Bool) (y : ByteArray) :
    Calls Try.prog 38 #[.agg #[.bool x, .string y]] w fun e w' => SomeB3 e ∧ Keeps (fun _ => False) w w' := by
  by_cases h2 : 2147483647 < y.size
  · have g2 : (2147483647 : Int) < (y.size : Int) := by omega
    go_enter Try.func38, Try.ntmps38
    go_wp2
    go_ret
    exact ⟨⟨_, rfl⟩, (Keeps.refl _ _).alloc _⟩
  · have g2 : ¬ (2147483647 : Int) < (y.size : Int) := by omega
    go_enter Try.func38, Try.ntmps38
    go_wp2
    go_ret
    exact ⟨⟨_, rfl⟩, (Keeps.refl _ _).alloc _⟩

set_option maxRecDepth 100000 in
set_option maxHeartbeats 1000000 in
theorem fits5 (w : World) (A : Option Addr) (n c : Nat) (L : List Mb) (hl : L.length = n) (hR : Rd w 2 A n (mbC L)) (hm : n ≤ 9223372036854775807) :
    Calls Try.prog 18 #[.slice A n c] w fun e w' => SomeB3 e ∧ Keeps (fun _ => False) w w' := by
  have HR := Lib.hid hR
  have HL := Lib.hid hl
  clear hR hl
  by_cases hbig : n ≤ 2147483647
  · have g1 : ¬ (2147483647 : Int) < (n : Int) := by omega
    go_enter Try.func18, Try.ntmps18
    go_wp2
    go_loopw [4, 10] (fun v i wr => ∃ k : Nat, k ≤ n ∧ i = .int .i64 k ∧ Keeps (fun _ => False) w wr) (fun _ i _ => n - (RowKit.intOf i).toNat)
    case atStart => exact ⟨0, Nat.zero_le _, rfl, Keeps.refl _ _⟩
    case round =>
      obtain ⟨k, hk, rfl, hK⟩ := hrel
      by_cases hlt : k < n
      · obtain ⟨ad, ⟨x, y⟩, rfl, hb, hp, hc1, hc2⟩ := Rd.maybe (HR.out.keeps hK (fun _ _ h => h)) HL.out hlt
        dsimp only at hc1 hc2
        have hc3 : wr.cell? { block := (ad.add (k * 2)).block, off := (ad.add (k * 2)).off + 1 } = some (.string y) := by rw [← Addr.add_add] at hc2; exact hc2
        have HF := Lib.hid (fits6 (wr.alloc (.cells #[.bool x, .string y] 48)) x y)
        have HK := Lib.hid (hK.alloc (.cells #[.bool x, .string y] 48))
        clear hp hK
        go_wp2_with fail
        refine HF.out.mono ?_
        rintro e w1 ⟨⟨b, rfl⟩, K1⟩
        have HK1 := Lib.hid (HK.out.trans K1 (fun _ _ h => h))
        clear K1
        cases b with
        | true =>
          go_wp2_with fail
          go_roundw
          case rel => exact ⟨k + 1, by omega, by go_num, HK1.out⟩
          case measure => (first | (simp [RowKit.intOf]; done) | (simp [RowKit.intOf]; omega))
        | false =>
          go_wp2_with fail
          go_ret
          exact ⟨⟨_, rfl⟩, HK1.out⟩
      · go_wp2
        go_ret
        exact ⟨⟨_, rfl⟩, hK⟩
  · have g1 : (2147483647 : Int) < (n : Int) := by omega
    go_enter Try.func18, Try.ntmps18
    go_wp2
    go_ret
    exact ⟨⟨_, rfl⟩, Keeps.refl _ _⟩

end Go.Proofs.Ytkgjchfbbpabpaa
