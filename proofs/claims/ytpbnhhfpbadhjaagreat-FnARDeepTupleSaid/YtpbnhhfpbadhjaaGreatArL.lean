/- The lists that the laws on arrays of strings look at. Conditions: lengths that an argument can have. -/
import Derived.Test.YtpbnhhfpbadhjaaGreatArS
namespace Go.Proofs.YtpbnhhfpbadhjaaGreat
open Go.RowKit Go.Lib
set_option linter.unusedVariables false
def RowsRes (w : World) (LL : List (List ByteArray)) (n : Nat) (e : Ending) (w' : World) : Prop := ∃ A' c', e = .returned (.slice A' n c') ∧ RowsOf w' A' LL ∧ Keeps (fun _ => False) w w'
def SomeB (e : Ending) : Prop := ∃ b, e = .returned (.bool b)

set_option maxRecDepth 100000 in
set_option maxHeartbeats 1000000 in
theorem fits2 (w : World) (A : Option Addr) (n c : Nat) (xs : List ByteArray) (hl : xs.length = n) (hR : Rd w 1 A n (xs.map Value.string)) (hm : n ≤ 9223372036854775807) :
    Calls Tryz.prog 6 #[.slice A n c] w fun e w' => SomeB e ∧ w = w' := by
  have HR := Lib.hid hR
  have HL := Lib.hid hl
  clear hR hl
  by_cases hbig : n ≤ 2147483647
  · have g1 : ¬ (2147483647 : Int) < (n : Int) := by omega
    go_enter Tryz.func6, Tryz.ntmps6
    go_wp2
    go_loop [4, 10] (fun v i => ∃ k : Nat, k ≤ n ∧ i = .int .i64 k) (fun _ i => n - (RowKit.intOf i).toNat)
    case atStart => exact ⟨0, Nat.zero_le _, rfl⟩
    case round =>
      obtain ⟨k, hk, rfl⟩ := hrel
      by_cases hlt : k < n
      · obtain ⟨x, hx⟩ : ∃ x, xs[k]? = some x := ⟨_, List.getElem?_eq_getElem (by rw [HL.out]; exact hlt)⟩
        obtain ⟨ad, u, rfl, hb, hu, hcell⟩ := HR.out.at' hlt
        have hu' : u = .string x := by
          rw [List.getElem?_map, hx] at hu
          injection hu with hu
          exact hu.symm
        subst hu'
        clear hu hx
        by_cases hb2 : x.size ≤ 2147483647
        · have g2 : ¬ (2147483647 : Int) < (x.size : Int) := by omega
          go_wp2
          go_round
          case rel => exact ⟨k + 1, by omega, by go_num⟩
          case measure => (first | (simp [RowKit.intOf]; done) | (simp [RowKit.intOf]; omega))
        · have g2 : (2147483647 : Int) < (x.size : Int) := by omega
          go_wp2
          go_ret
          exact ⟨⟨_, rfl⟩, rfl⟩
      · go_wp2
        go_ret
        exact ⟨⟨_, rfl⟩, rfl⟩
  · have g1 : (2147483647 : Int) < (n : Int) := by omega
    go_enter Tryz.func6, Tryz.ntmps6
    go_wp2
    go_ret
    exact ⟨⟨_, rfl⟩, rfl⟩

set_option maxRecDepth 100000 in
set_option maxHeartbeats 1000000 in
theorem fits1 (w : World) (A : Option Addr) (n c : Nat) (LL : List (List ByteArray)) (hl : LL.length = n) (hR : RowsOf w A LL) (hi : ∀ X ∈ LL, X.length ≤ 9223372036854775807) (hm : n ≤ 9223372036854775807) :
    Calls Tryz.prog 7 #[.slice A n c] w fun e w' => SomeB e ∧ w = w' := by
  have HR := Lib.hid hR
  have HL := Lib.hid hl
  clear hR hl
  by_cases hbig : n ≤ 2147483647
  · have g1 : ¬ (2147483647 : Int) < (n : Int) := by omega
    go_enter Tryz.func7, Tryz.ntmps7
    go_wp2
    go_loop [4, 10] (fun v i => ∃ k : Nat, k ≤ n ∧ i = .int .i64 k) (fun _ i => n - (RowKit.intOf i).toNat)
    case atStart => exact ⟨0, Nat.zero_le _, rfl⟩
    case round =>
      obtain ⟨k, hk, rfl⟩ := hrel
      by_cases hlt : k < n
      · obtain ⟨X, hX⟩ : ∃ X, LL[k]? = some X := ⟨_, List.getElem?_eq_getElem (by rw [HL.out]; exact hlt)⟩
        obtain ⟨ad, B, d, rfl, hlb, hcell, hRd⟩ := HR.out.at' hX
        have H2 := Lib.hid (fits2 w B X.length d X rfl hRd (hi X (List.mem_of_getElem? hX)))
        clear hX hRd
        go_wp2_with fail
        refine H2.out.mono ?_
        rintro e w1 ⟨⟨b, rfl⟩, rfl⟩
        cases b with
        | true =>
          go_wp2_with fail
          go_round
          case rel => exact ⟨k + 1, by omega, by go_num⟩
          case measure => (first | (simp [RowKit.intOf]; done) | (simp [RowKit.intOf]; omega))
        | false =>
          go_wp2_with fail
          go_ret
          exact ⟨⟨_, rfl⟩, rfl⟩
      · go_wp2
        go_ret
        exact ⟨⟨_, rfl⟩, rfl⟩
  · have g1 : (2147483647 : Int) < (n : Int) := by omega
    go_enter Tryz.func7, Tryz.ntmps7
    go_wp2
    go_ret
    exact ⟨⟨_, rfl⟩, rfl⟩

/-- A text cut at 60 bytes; the words that are looked at. -/
def cut60 (s : ByteArray) : ByteArray := if 60 < s.size then s.extract 0 60 else s
def wordsOf (m : Nat) (xs : List ByteArray) : List ByteArray := (xs.take m).map cut60
theorem cut60_size (s : ByteArray) : (cut60 s).size ≤ 60 := by
  unfold cut60
  split
  · rw [ByteArray.size_extract]; omega
  · omega
theorem wordsOf_step {m k : Nat} {xs : List ByteArray} {x : ByteArray} (h : xs[k]? = some x) : (wordsOf (k + 1) xs) = wordsOf k xs ++ [cut60 x] := by
  rw [wordsOf, List.take_add_one, h]; simp [wordsOf]
theorem wordsOf_length (m : Nat) (xs : List ByteArray) : (wordsOf m xs).length = min m xs.length := by simp [wordsOf]

set_option maxRecDepth 100000 in
set_option maxHeartbeats 2000000 in
theorem arWords (w : World) (A : Option Addr) (n c m : Nat) (xs : List ByteArray) (hl : xs.length = n) (hR : Rd w 1 A n (xs.map Value.string)) (hn : n ≤ 9223372036854775807) (hm : m ≤ 1000) :
    Calls Tryz.prog 9 #[.slice A n c, .int .i64 m] w fun e w' => OwnRes w 9 ((wordsOf m xs).map Value.string) (wordsOf m xs).length e w' := by
  obtain ⟨i0, hi0, hz0, hz1, hz2⟩ := info_parts infoStrE
  have HR := Lib.hid hR
  have HL := Lib.hid hl
  clear hR hl
  go_enter Tryz.func9, Tryz.ntmps9
  go_wp2_with fail
  go_loopw [5, 6] (fun v i wr => ∃ (k : Nat) (A1 : Option Addr) (c1 : Nat), k ≤ n ∧ k ≤ m ∧ i = .int .i64 k ∧ v = .slice A1 k c1 ∧ wr.ownsRow w.heap.size 9 1 (.slice A1 k c1) k ((wordsOf k xs).map Value.string) ∧ Keeps (fun _ => False) w wr) (fun _ i _ => n - (RowKit.intOf i).toNat)
  case atStart => exact ⟨0, none, 0, Nat.zero_le _, Nat.zero_le _, rfl, rfl, World.ownsRow_nil w w.heap.size 9 1, Keeps.refl _ _⟩
  case round =>
    obtain ⟨k, A1, c1, hk, hkm, rfl, rfl, hown, hK⟩ := hrel
    by_cases hlt : k < n ∧ k < m
    · obtain ⟨hlt, hlm⟩ := hlt
      have l1 : (k : Int) < (n : Int) := by omega
      have l2 : (k : Int) < (m : Int) := by omega
      obtain ⟨x, hx⟩ : ∃ x, xs[k]? = some x := ⟨_, List.getElem?_eq_getElem (by rw [HL.out]; exact hlt)⟩
      have HT := Lib.hid (wordsOf_step (m := m) hx)
      obtain ⟨ad, u, rfl, hb, hu, hcell⟩ := (HR.out.keeps hK (fun _ _ h => h)).at' hlt
      have hu' : u = .string x := by
        rw [List.getElem?_map, hx] at hu
        injection hu with hu
        exact hu.symm
      subst hu'
      clear hu hx
      by_cases h60 : 60 < x.size
      · have g2 : (60 : Int) < (x.size : Int) := by omega
        have HC := Lib.hid (show cut60 x = x.extract 0 60 from if_pos h60)
        have hxs : (x.extract 0 60).size = 60 := by rw [ByteArray.size_extract]; omega
        have hKa := hK.alloc (.cells #[.string (x.extract 0 60)] 9)
        have howna := own_keeps hown ((Keeps.refl (fun _ => False) wr).alloc (.cells #[.string (x.extract 0 60)] 9)) (fun _ _ h => h)
        go_wp2_with (at_builtin
                     refine wpList_append_rd _ rfl (.tmp 28) (.tmp 30) _ rfl w.heap.size 9 i0 _ 1 16 Tryz.underlying22 hi0 hz0 hz1 hz2 rfl Nat.one_pos A1 c1 k _ rfl howna (some ⟨wr.heap.size, 0, none⟩) 1 1 [.string (x.extract 0 60)] rfl (rd_one wr 9 _) (one_val _ rfl) (by simp only [maxLen]; omega) (by omega) hKa.size ?_
                     intro A2 c2 w2 hown2 hg2 hat2)
        have hK2 := hKa.grown hg2 (fun i hi => .inr (howna.lt i (by rw [ownBlock_slice]; exact hi)).1)
        go_roundw
        case rel => exact ⟨k + 1, A2, c2, by omega, by omega, by go_num, rfl, by rw [HT.out, HC.out, List.map_append]; exact hown2, hK2⟩
        case measure => (first | (simp [RowKit.intOf]; done) | (simp [RowKit.intOf]; omega))
      · have g2 : ¬ (60 : Int) < (x.size : Int) := by omega
        have HC := Lib.hid (show cut60 x = x from if_neg h60)
        have hKa := hK.alloc (.cells #[.string x] 9)
        have howna := own_keeps hown ((Keeps.refl (fun _ => False) wr).alloc (.cells #[.string x] 9)) (fun _ _ h => h)
        go_wp2_with (at_builtin
                     refine wpList_append_rd _ rfl (.tmp 28) (.tmp 30) _ rfl w.heap.size 9 i0 _ 1 16 Tryz.underlying22 hi0 hz0 hz1 hz2 rfl Nat.one_pos A1 c1 k _ rfl howna (some ⟨wr.heap.size, 0, none⟩) 1 1 [.string x] rfl (rd_one wr 9 _) (one_val _ rfl) (by simp only [maxLen]; omega) (by omega) hKa.size ?_
                     intro A2 c2 w2 hown2 hg2 hat2)
        have hK2 := hKa.grown hg2 (fun i hi => .inr (howna.lt i (by rw [ownBlock_slice]; exact hi)).1)
        go_roundw
        case rel => exact ⟨k + 1, A2, c2, by omega, by omega, by go_num, rfl, by rw [HT.out, HC.out, List.map_append]; exact hown2, hK2⟩
        case measure => (first | (simp [RowKit.intOf]; done) | (simp [RowKit.intOf]; omega))
    · have hkn : wordsOf m xs = wordsOf k xs := by
        rw [wordsOf, wordsOf]
        by_cases e : k = m
        · rw [e]
        · have : k = n := by omega
          rw [List.take_of_length_le (by rw [HL.out]; omega), List.take_of_length_le (by rw [HL.out]; omega)]
      have hkl : (wordsOf k xs).length = k := by rw [wordsOf_length, HL.out]; omega
      have HE := Lib.hid hkn
      have HKL := Lib.hid hkl
      have hnot : (k : Int) < (n : Int) → ¬ (k : Int) < (m : Int) := by omega
      clear hkn hkl hlt
      by_cases q1 : (k : Int) < (n : Int)
      · have q2 : ¬ (k : Int) < (m : Int) := hnot q1
        clear hnot
        go_wp2_with fail
        go_ret
        rw [HE.out, HKL.out]
        exact OwnRes.mk hown hK
      · clear hnot
        go_wp2_with fail
        go_ret
        rw [HE.out, HKL.out]
        exact OwnRes.mk hown hK

/-- The rows that are looked at. -/
def listsOf (LL : List (List ByteArray)) : List (List ByteArray) := (LL.take 20).map (wordsOf 12) ++ [[(⟨#[111, 110, 101]⟩ : ByteArray), ⟨#[]⟩, ⟨#[116, 119, 111]⟩]]
theorem lists_step {LL : List (List ByteArray)} {k : Nat} {X : List ByteArray} (h : LL[k]? = some X) : ((LL.take (k + 1)).map (wordsOf 12)).map (fun L => L.map Value.string) = ((LL.take k).map (wordsOf 12)).map (fun L => L.map Value.string) ++ [(wordsOf 12 X).map Value.string] := by
  rw [List.take_add_one, h]; simp

set_option maxRecDepth 100000 in
set_option maxHeartbeats 2000000 in
theorem arLists (w : World) (A : Option Addr) (n c : Nat) (LL : List (List ByteArray)) (hl : LL.length = n) (hR : RowsOf w A LL) (hn : n ≤ 9223372036854775807) (hi : ∀ X ∈ LL, X.length ≤ 9223372036854775807) :
    Calls Tryz.prog 8 #[.slice A n c] w fun e w' => RowsRes w (listsOf LL) (listsOf LL).length e w' := by
  obtain ⟨i0, hi0, hz0, hz1, hz2⟩ := info_parts infoSsE
  have HR := Lib.hid hR
  have HL := Lib.hid hl
  have HI := Lib.hid hi
  clear hR hl hi
  go_enter Tryz.func8, Tryz.ntmps8
  go_wp2_with fail
  go_loopw [3, 4] (fun v i wr => ∃ (k : Nat) (A1 : Option Addr) (c1 : Nat) (VS : List Value), k ≤ n ∧ k ≤ 20 ∧ i = .int .i64 k ∧ v = .slice A1 k c1 ∧ wr.ownsRow w.heap.size 22 1 (.slice A1 k c1) k VS ∧ RB wr A1 VS (((LL.take k).map (wordsOf 12)).map fun L => L.map Value.string) ∧ Keeps (fun _ => False) w wr) (fun _ i _ => 20 - (RowKit.intOf i).toNat)
  case atStart => exact ⟨0, none, 0, [], Nat.zero_le _, Nat.zero_le _, rfl, rfl, World.ownsRow_nil w w.heap.size 22 1, RB.nil _ _, Keeps.refl _ _⟩
  case round =>
    obtain ⟨k, A1, c1, VS, hk, hk20, rfl, rfl, hown, hRB, hK⟩ := hrel
    have HRB := Lib.hid hRB
    have hA1 : ∀ q, ob A1 = some q → q < wr.heap.size := fun q hq => (hown.lt q (by rw [ownBlock_slice]; exact hq)).2
    have HA1 := Lib.hid hA1
    clear hRB hA1
    by_cases hlt : k < n ∧ k < 20
    · obtain ⟨hlt, hlm⟩ := hlt
      have l1 : (k : Int) < (n : Int) := by omega
      have l2 : (k : Int) < (20 : Int) := by omega
      obtain ⟨X, hX⟩ : ∃ X, LL[k]? = some X := ⟨_, List.getElem?_eq_getElem (by rw [HL.out]; exact hlt)⟩
      have HT := Lib.hid (lists_step hX)
      obtain ⟨ad, B, d, rfl, hlb, hcell, hRd⟩ := (HR.out.keeps hK).at' hX
      have HW := Lib.hid (arWords wr B X.length d 12 X rfl hRd (HI.out X (List.mem_of_getElem? hX)) (by omega))
      clear hX hRd
      generalize hwx : wordsOf 12 X = wx at *
      clear hwx
      go_wp2_with fail
      refine HW.out.mono ?_
      rintro e w2 ⟨A2, c2, rfl, hown2, K2, hA2⟩
      have hK2 := hK.trans K2 (fun _ _ h => h)
      have hKa := hK2.alloc (.cells #[.slice A2 wx.length c2] 22)
      have K2a := (Keeps.refl (fun _ => False) w2).alloc (.cells #[.slice A2 wx.length c2] 22)
      have howna := own_keeps (own_keeps hown K2 (fun _ _ h => h)) K2a (fun _ _ h => h)
      have hown2a := own_keeps hown2 K2a (fun _ _ h => h)
      go_wp2_with (at_builtin
                   refine wpList_append_rd _ rfl (.tmp 15) (.tmp 21) _ rfl w.heap.size 22 i0 _ 1 24 Tryz.underlying25 hi0 hz0 hz1 hz2 rfl Nat.one_pos A1 c1 k _ rfl howna (some ⟨w2.heap.size, 0, none⟩) 1 1 [.slice A2 wx.length c2] rfl (rd_one w2 22 _) (one_val _ rfl) (by simp only [maxLen]; omega) (by omega) hKa.size ?_
                   intro A3 c3 w3 hown3 hg3 hat3)
      have hK3 := hKa.grown hg3 (fun i hi => .inr (howna.lt i (by rw [ownBlock_slice]; exact hi)).1)
      have hlx : (wx.map Value.string).length = wx.length := List.length_map _
      have hRB3 := (((HRB.out.keeps K2).keeps K2a).snoc (xs := wx.map Value.string) (B := A2) (d := c2) (by rw [hlx]; exact Rd.own hown2a) (fun q hq => by
        have h1 := hA2 q hq
        refine ⟨(hown2a.lt q (by rw [ownBlock_slice]; exact hq)).2, fun e => ?_⟩
        have := HA1.out q e
        omega) hg3 hat3)
      rw [hlx, ← HT.out] at hRB3
      go_roundw
      case rel => exact ⟨k + 1, A3, c3, _, by omega, by omega, by go_num, rfl, hown3, hRB3, hK3⟩
      case measure => (first | (simp [RowKit.intOf]; done) | (simp [RowKit.intOf]; omega))
    · have HE := Lib.hid (show LL.take 20 = LL.take k by
        by_cases e : k = 20
        · rw [e]
        · have : k = n := by omega
          rw [List.take_of_length_le (by rw [HL.out]; omega), List.take_of_length_le (by rw [HL.out]; omega)])
      have HKL := Lib.hid (show (listsOf LL).length = k + 1 by rw [listsOf, List.length_append, List.length_map, HE.out, List.length_take, HL.out]; simp; omega)
      have hnot : (k : Int) < (n : Int) → ¬ (k : Int) < (20 : Int) := by omega
      clear hlt
      have KX := (Keeps.refl (fun _ => False) wr).alloc (.cells #[.string ⟨#[111, 110, 101]⟩, .string ⟨#[]⟩, .string ⟨#[116, 119, 111]⟩] 9)
      have hWX := Whole.new wr 9 #[.string ⟨#[111, 110, 101]⟩, .string ⟨#[]⟩, .string ⟨#[116, 119, 111]⟩]
      have hsx : (World.heap (wr.alloc (.cells #[.string ⟨#[111, 110, 101]⟩, .string ⟨#[]⟩, .string ⟨#[116, 119, 111]⟩] 9))).size = wr.heap.size + 1 := by simp
      have KY := (Keeps.refl (fun _ => False) (wr.alloc (.cells #[.string ⟨#[111, 110, 101]⟩, .string ⟨#[]⟩, .string ⟨#[116, 119, 111]⟩] 9))).alloc (.cells #[.slice (some ⟨wr.heap.size, 0, none⟩) 3 3] 22)
      have hRX : Rd (wr.alloc (.cells #[.string ⟨#[111, 110, 101]⟩, .string ⟨#[]⟩, .string ⟨#[116, 119, 111]⟩] 9)) 1 (some ⟨wr.heap.size, 0, none⟩) 3 (List.map Value.string [(⟨#[111, 110, 101]⟩ : ByteArray), ⟨#[]⟩, ⟨#[116, 119, 111]⟩]) := Rd.whole hWX rfl rfl
      have howna := own_keeps (own_keeps hown KX (fun _ _ h => h)) KY (fun _ _ h => h)
      have hKa := (hK.trans KX (fun _ _ h => h)).trans KY (fun _ _ h => h)
      have hro := rd_one (wr.alloc (.cells #[.string ⟨#[111, 110, 101]⟩, .string ⟨#[]⟩, .string ⟨#[116, 119, 111]⟩] 9)) 22 (.slice (some ⟨wr.heap.size, 0, none⟩) 3 3)
      rw [hsx] at hro
      have HSX := Lib.hid hsx
      clear hsx
      by_cases q1 : (k : Int) < (n : Int)
      · have q2 : ¬ (k : Int) < (20 : Int) := hnot q1
        clear hnot
        go_wp2_with (at_builtin
                     refine wpList_append_rd _ rfl (.tmp 23) (.tmp 25) _ rfl w.heap.size 22 i0 _ 1 24 Tryz.underlying25 hi0 hz0 hz1 hz2 rfl Nat.one_pos A1 c1 k _ rfl howna (some ⟨wr.heap.size + 1, 0, none⟩) 1 1 [.slice (some ⟨wr.heap.size, 0, none⟩) 3 3] rfl hro (one_val _ rfl) (by simp only [maxLen]; omega) (by omega) hKa.size ?_
                     intro A3 c3 w3 hown3 hg3 hat3)
        have hK3 := hKa.grown hg3 (fun i hi => .inr (howna.lt i (by rw [ownBlock_slice]; exact hi)).1)
        have hRB3 := (((HRB.out.keeps KX).keeps KY).snoc (xs := List.map Value.string [(⟨#[111, 110, 101]⟩ : ByteArray), ⟨#[]⟩, ⟨#[116, 119, 111]⟩]) (B := some ⟨wr.heap.size, 0, none⟩) (d := 3) (hRX.keeps KY (fun _ _ h => h)) (fun q hq => by
          simp [ob] at hq
          subst hq
          refine ⟨by have := KY.size; have := HSX.out; omega, fun e => ?_⟩
          have := HA1.out _ e
          omega) hg3 hat3)
        have hfin := RB.rows hRB3 hown3
        have HFIN := Lib.hid (show RowsOf w3 A3 (listsOf LL) by
          rw [RowsOf, listsOf, HE.out, List.map_append]
          exact hfin)
        clear hfin hRB3
        go_ret
        rw [HKL.out]
        exact ⟨A3, c3, rfl, HFIN.out, hK3⟩
      · clear hnot
        go_wp2_with (at_builtin
                     refine wpList_append_rd _ rfl (.tmp 23) (.tmp 25) _ rfl w.heap.size 22 i0 _ 1 24 Tryz.underlying25 hi0 hz0 hz1 hz2 rfl Nat.one_pos A1 c1 k _ rfl howna (some ⟨wr.heap.size + 1, 0, none⟩) 1 1 [.slice (some ⟨wr.heap.size, 0, none⟩) 3 3] rfl hro (one_val _ rfl) (by simp only [maxLen]; omega) (by omega) hKa.size ?_
                     intro A3 c3 w3 hown3 hg3 hat3)
        have hK3 := hKa.grown hg3 (fun i hi => .inr (howna.lt i (by rw [ownBlock_slice]; exact hi)).1)
        have hRB3 := (((HRB.out.keeps KX).keeps KY).snoc (xs := List.map Value.string [(⟨#[111, 110, 101]⟩ : ByteArray), ⟨#[]⟩, ⟨#[116, 119, 111]⟩]) (B := some ⟨wr.heap.size, 0, none⟩) (d := 3) (hRX.keeps KY (fun _ _ h => h)) (fun q hq => by
          simp [ob] at hq
          subst hq
          refine ⟨by have := KY.size; have := HSX.out; omega, fun e => ?_⟩
          have := HA1.out _ e
          omega) hg3 hat3)
        have hfin := RB.rows hRB3 hown3
        have HFIN := Lib.hid (show RowsOf w3 A3 (listsOf LL) by
          rw [RowsOf, listsOf, HE.out, List.map_append]
          exact hfin)
        clear hfin hRB3
        go_ret
        rw [HKL.out]
        exact ⟨A3, c3, rfl, HFIN.out, hK3⟩
end Go.Proofs.YtpbnhhfpbadhjaaGreat
