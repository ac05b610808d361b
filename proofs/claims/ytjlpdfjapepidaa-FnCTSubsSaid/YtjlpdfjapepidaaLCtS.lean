/- The walk of the law on types with others. -/
import Derived.Test.YtjlpdfjapepidaaCtT
import Derived.Test.YtjlpdfjapepidaaRow
namespace Go.Proofs.Ytjlpdfjapepidaa
open Go.RowKit Go.Lib
set_option linter.unusedVariables false

/-- A slice of n slices of bytes. -/
def RowsAt (w : World) (A : Option Addr) (n : Nat) : Prop := ∀ i, i < n → ∃ (ad : Addr) (B : Option Addr) (m d : Nat), A = some ad ∧ ad.block < w.heap.size ∧ w.cell? (ad.add i) = some (.slice B m d) ∧ m ≤ d ∧ d ≤ maxLen ∧ ByteRow w B m
theorem RowsAt.keeps {w w' : World} {A : Option Addr} {n : Nat} (h : RowsAt w A n) (hk : Keeps (fun _ => False) w w') : RowsAt w' A n := fun i hi => by
  obtain ⟨ad, B, m, d, e, hl, hc, h1, h2, h3⟩ := h i hi
  exact ⟨ad, B, m, d, e, Nat.lt_of_lt_of_le hl hk.size, (hk.cell (by rw [blk_add]; exact hl) (fun h => h)).trans hc, h1, h2, h3.keeps hk⟩

def SomeBool (e : Ending) : Prop := ∃ b, e = .returned (.bool b)

set_option maxRecDepth 100000 in
set_option maxHeartbeats 1000000 in
theorem fits13 (w : World) (A : Option Addr) (n c : Nat) (hc : n ≤ c) (hm : c ≤ maxLen) (hR : RowsAt w A n) :
    Calls Try.prog 5 #[.slice A n c] w fun e w' => SomeBool e ∧ w = w' := by
  have HR := Lib.hid hR
  unfold maxLen at hm
  clear hR
  by_cases hbig : n ≤ 2147483647
  · have g1 : ¬ (2147483647 : Int) < (n : Int) := by omega
    go_enter Try.func5, Try.ntmps5
    go_wp2
    go_loop [4, 10] (fun v i => ∃ k : Nat, k ≤ n ∧ i = .int .i64 k) (fun _ i => n - (RowKit.intOf i).toNat)
    case atStart => exact ⟨0, Nat.zero_le _, rfl⟩
    case round =>
      obtain ⟨k, hk, rfl⟩ := hrel
      by_cases hlt : k < n
      · obtain ⟨ad, B, m, d, rfl, hl, hcell, h1, h2, h3⟩ := HR.out k hlt
        unfold maxLen at h2
        by_cases hb : m ≤ 2147483647
        · have g2 : ¬ (2147483647 : Int) < (m : Int) := by omega
          go_wp2
          go_round
          case rel => exact ⟨k + 1, by omega, by go_num⟩
          case measure => (first | (simp [RowKit.intOf]; done) | (simp [RowKit.intOf]; omega))
        · have g2 : (2147483647 : Int) < (m : Int) := by omega
          go_wp2
          go_ret
          exact ⟨⟨_, rfl⟩, rfl⟩
      · go_wp2
        go_ret
        exact ⟨⟨_, rfl⟩, rfl⟩
  · have g1 : (2147483647 : Int) < (n : Int) := by omega
    go_enter Try.func5, Try.ntmps5
    go_wp2
    go_ret
    exact ⟨⟨_, rfl⟩, rfl⟩

set_option maxRecDepth 100000 in
set_option maxHeartbeats 1000000 in
theorem ctWithI (w : World) (t : ByteArray) (g c n : Nat) (xs : List ByteArray) (hl : xs.length = n) (hS : SRow w g xs) (hc : n ≤ c) (h0 : 0 < n) (hn : n ≤ 100) (ht : t.size ≤ 100000) (hx : ∀ x ∈ xs, x.size ≤ 100000) :
    Calls Try.prog 10 #[.string t, .slice (some ⟨g, 0, none⟩) n c] w fun e w' => e = .returned (.string (ctS t xs)) ∧ Below w.heap.size w w' := by
  have H := Lib.hid (ctWith w t g c n xs hl hS hc h0 hn ht hx)
  clear hl hS hx
  go_enter Try.func10, Try.ntmps10
  go_wp2_with fail
  refine H.out.mono ?_
  rintro e w1 ⟨rfl, hb⟩
  go_wp2_with fail
  go_ret
  exact ⟨rfl, hb⟩

def SubsRel (w : World) (n : Nat) (v i : Value) (wr : World) : Prop := ∃ (k : Nat) (A : Option Addr) (c : Nat) (xs : List ByteArray), k ≤ n ∧ k ≤ 5 ∧ i = .int .i64 k ∧ v = .slice A k c ∧ wr.ownsRow w.heap.size 9 1 (.slice A k c) k (xs.map Value.string) ∧ xs.length = k ∧ (∀ x ∈ xs, x.size ≤ 1000) ∧ Keeps (fun _ => False) w wr
theorem snoc_str (xs : List ByteArray) (x : ByteArray) : xs.map Value.string ++ [.string x] = (xs ++ [x]).map Value.string := by simp
theorem snoc_size {xs : List ByteArray} {x : ByteArray} (h : ∀ y ∈ xs, y.size ≤ 1000) (hx : x.size ≤ 1000) : ∀ y ∈ xs ++ [x], y.size ≤ 1000 := by
  intro y hy
  rcases List.mem_append.1 hy with hy | hy
  · exact h y hy
  · rw [List.mem_singleton.1 hy]; exact hx

set_option maxRecDepth 100000 in
set_option maxHeartbeats 4000000 in
theorem ctSubsWalk (w : World) (wh : Int) (A0 : Option Addr) (n c : Nat) (hw0 : 0 ≤ wh) (hw1 : wh < 256) (hc : n ≤ c) (hm : c ≤ maxLen) (hR : RowsAt w A0 n) :
    Calls Try.prog 3 #[.int .u8 wh, .slice A0 n c] w fun e w' => e = .returned (.bool true) ∧ Below w.heap.size w w' := by
  obtain ⟨i0, hi0, hz0, hz1, hz2⟩ := info_parts infoStr
  have K := (Keeps.refl (fun _ => False) w).alloc (.cells plainCells 9)
  have hk : (wh % 22).toNat < plains.length := by show _ < 22; omega
  obtain ⟨t, hpl⟩ : ∃ t, plains[(wh % 22).toNat]? = some t := ⟨_, List.getElem?_eq_getElem hk⟩
  have hp : plainCells[(wh % 22).toNat]? = some (.string t) := by rw [plainCells_get, hpl]; rfl
  obtain ⟨_, t8, _, _⟩ := plain_of hpl
  have HF := Lib.hid (fits13 w A0 n c hc hm hR)
  have HR := Lib.hid hR
  have CT := Lib.hid (ctType_any 2 (by omega))
  have hb2 : bd 2 ≤ 1000 := bd_le 2 (by omega)
  generalize bd 2 = B2 at *
  unfold maxLen at hm
  clear hR hpl hk
  go_enter Try.func3, Try.ntmps3
  go_wp2_with fail
  refine HF.out.mono ?_
  rintro e w1 ⟨⟨b, rfl⟩, rfl⟩
  cases b with
  | false =>
    go_wp2_with fail
    go_ret
    exact ⟨rfl, Below.refl _ _⟩
  | true =>
    go_wp2_with (first | (go_at_call 6; refine (ctPlain _).mono ?_; rintro e w1 ⟨rfl, rfl⟩))
    go_loopw [7, 8] (fun v i wr => SubsRel w n v i wr) (fun _ i _ => 5 - (RowKit.intOf i).toNat)
    case atStart => exact ⟨0, none, 0, [], Nat.zero_le _, by omega, rfl, rfl, World.ownsRow_nil _ w.heap.size 9 1, rfl, fun _ h => by simp at h, K⟩
    case round =>
      obtain ⟨k, A, c1, xs, hkn, hk5, rfl, rfl, hown, hxl, hxs, hK⟩ := hrel
      by_cases hlt : k < n ∧ k < 5
      · obtain ⟨hlt, hlt5⟩ := hlt
        have l1 : (k : Int) < (n : Int) := by omega
        have l2 : (k : Int) < 5 := by omega
        obtain ⟨ad, B, m, d, rfl, hl, hcell, h1, h2, h3⟩ := (HR.out.keeps hK) k hlt
        have HCT := Lib.hid (CT.out wr B d m h1 h2 h3)
        have HXL := Lib.hid hxl
        have HXS := Lib.hid hxs
        unfold maxLen at h2
        clear h3 hxl hxs
        go_wp2_with fail
        refine HCT.out.mono ?_
        rintro e w2 ⟨x, rfl, hx, K2⟩
        have hK2 := hK.trans K2 (fun _ _ h => h)
        have hKa := hK2.alloc (.cells #[.string x] 9)
        have hown2 := own_keeps hown K2 (fun _ _ h => h)
        have howna := own_keeps hown2 ((Keeps.refl (fun _ => False) w2).alloc (.cells #[.string x] 9)) (fun _ _ h => h)
        have hRd := Rd.whole (Whole.new w2 9 #[.string x]) rfl rfl
        go_wp2_with (at_builtin
                     refine wpList_append_rd _ rfl (.tmp 32) (.tmp 38) _ rfl w.heap.size 9 i0 _ 1 16 Try.underlying24 hi0 hz0 hz1 hz2 rfl Nat.one_pos A c1 k _ rfl howna (some ⟨w2.heap.size, 0, none⟩) 1 1 [.string x] rfl hRd (one_str x) (by simp only [maxLen]; omega) (by omega) hKa.size ?_
                     intro A3 c3 w3 hown3 hg3 hat3
                     have hK3 := hKa.grown hg3 (fun i hi => .inr (howna.lt i (by rw [ownBlock_slice]; exact hi)).1)
                     rw [snoc_str] at hown3)
        go_roundw
        case rel => exact ⟨k + 1, A3, c3, xs ++ [x], by omega, by omega, by go_num, rfl, hown3, by rw [List.length_append, HXL.out]; rfl, snoc_size HXS.out (by omega), hK3⟩
        case measure => (first | (simp [RowKit.intOf]; done) | (simp [RowKit.intOf]; omega))
      · have HXL := Lib.hid (show (xs ++ [(⟨#[73, 110, 116, 56]⟩ : ByteArray)]).length = k + 1 by rw [List.length_append, hxl]; rfl)
        have HXS := Lib.hid (snoc_size (x := (⟨#[73, 110, 116, 56]⟩ : ByteArray)) hxs (by decide))
        have hKa := hK.alloc (.cells #[.string (⟨#[73, 110, 116, 56]⟩ : ByteArray)] 9)
        have howna := own_keeps hown ((Keeps.refl (fun _ => False) wr).alloc (.cells #[.string (⟨#[73, 110, 116, 56]⟩ : ByteArray)] 9)) (fun _ _ h => h)
        have hRd := Rd.whole (Whole.new wr 9 #[.string (⟨#[73, 110, 116, 56]⟩ : ByteArray)]) rfl rfl
        have hl5 : (k : Int) < 5 → ¬ (k : Int) < (n : Int) := by omega
        clear hxl hxs hlt
        by_cases q1 : (k : Int) < (n : Int)
        · have q2 : ¬ (k : Int) < 5 := by omega
          clear hl5
          go_wp2_with (at_builtin
                       refine wpList_append_rd _ rfl (.tmp 40) (.tmp 41) _ rfl w.heap.size 9 i0 _ 1 16 Try.underlying24 hi0 hz0 hz1 hz2 rfl Nat.one_pos A c1 k _ rfl howna (some ⟨wr.heap.size, 0, none⟩) 1 1 [.string (⟨#[73, 110, 116, 56]⟩ : ByteArray)] rfl hRd (one_str (⟨#[73, 110, 116, 56]⟩ : ByteArray)) (by simp only [maxLen]; omega) (by omega) hKa.size ?_
                       intro A3 c3 w3 hown3 hg3 hat3
                       have hK3 := hKa.grown hg3 (fun i hi => .inr (howna.lt i (by rw [ownBlock_slice]; exact hi)).1)
                       rw [snoc_str] at hown3)
          obtain ⟨g3, rfl, hb3, hS3, hc3⟩ := SRow.own hown3 (by omega)
          generalize xs ++ [(⟨#[73, 110, 116, 56]⟩ : ByteArray)] = ys at *
          have hys : ∀ y ∈ ys, y.size ≤ 100000 := fun y hy => by have := HXS.out y hy; omega
          have H1 := Lib.hid (ctOf w3 t g3 c3 (k + 1) ys HXL.out hS3 (by omega) (by omega) hys)
          have H2 := Lib.hid (ctSub w3 t g3 c3 (k + 1) ys HXL.out hS3 (by omega) (by omega) (by omega) hys)
          have H3 := Lib.hid (fun w hS => ctWithI w t g3 c3 (k + 1) ys HXL.out hS hc3 (by omega) (by omega) (by omega) hys)
          have HS3 := Lib.hid hS3
          clear hys hS3 hown3
          generalize ctS t ys = S at *
          refine H1.out.mono ?_
          rintro e w4 ⟨rfl, rfl⟩
          go_wp2_with fail
          refine H2.out.mono ?_
          rintro e w5 ⟨rfl, K5⟩
          go_wp2_with fail
          refine (H3.out w5 (HS3.out.keeps K5 (fun h => h))).mono ?_
          rintro e w6 ⟨rfl, hb6⟩
          go_wp2_with fail
          go_ret
          exact ⟨rfl, ((hK3.trans K5 (fun _ _ h => h)).trans (Keeps.of_below hb6 (fun _ => False)) (fun _ _ h => h)).below (Nat.le_refl _) (fun _ h => h.elim)⟩
        · clear hl5
          go_wp2_with (at_builtin
                       refine wpList_append_rd _ rfl (.tmp 40) (.tmp 41) _ rfl w.heap.size 9 i0 _ 1 16 Try.underlying24 hi0 hz0 hz1 hz2 rfl Nat.one_pos A c1 k _ rfl howna (some ⟨wr.heap.size, 0, none⟩) 1 1 [.string (⟨#[73, 110, 116, 56]⟩ : ByteArray)] rfl hRd (one_str (⟨#[73, 110, 116, 56]⟩ : ByteArray)) (by simp only [maxLen]; omega) (by omega) hKa.size ?_
                       intro A3 c3 w3 hown3 hg3 hat3
                       have hK3 := hKa.grown hg3 (fun i hi => .inr (howna.lt i (by rw [ownBlock_slice]; exact hi)).1)
                       rw [snoc_str] at hown3)
          obtain ⟨g3, rfl, hb3, hS3, hc3⟩ := SRow.own hown3 (by omega)
          generalize xs ++ [(⟨#[73, 110, 116, 56]⟩ : ByteArray)] = ys at *
          have hys : ∀ y ∈ ys, y.size ≤ 100000 := fun y hy => by have := HXS.out y hy; omega
          have H1 := Lib.hid (ctOf w3 t g3 c3 (k + 1) ys HXL.out hS3 (by omega) (by omega) hys)
          have H2 := Lib.hid (ctSub w3 t g3 c3 (k + 1) ys HXL.out hS3 (by omega) (by omega) (by omega) hys)
          have H3 := Lib.hid (fun w hS => ctWithI w t g3 c3 (k + 1) ys HXL.out hS hc3 (by omega) (by omega) (by omega) hys)
          have HS3 := Lib.hid hS3
          clear hys hS3 hown3
          generalize ctS t ys = S at *
          refine H1.out.mono ?_
          rintro e w4 ⟨rfl, rfl⟩
          go_wp2_with fail
          refine H2.out.mono ?_
          rintro e w5 ⟨rfl, K5⟩
          go_wp2_with fail
          refine (H3.out w5 (HS3.out.keeps K5 (fun h => h))).mono ?_
          rintro e w6 ⟨rfl, hb6⟩
          go_wp2_with fail
          go_ret
          exact ⟨rfl, ((hK3.trans K5 (fun _ _ h => h)).trans (Keeps.of_below hb6 (fun _ => False)) (fun _ _ h => h)).below (Nat.le_refl _) (fun _ h => h.elim)⟩

theorem cell_in {w : World} {p : Addr} {v : Value} (h : w.cell? p = some v) : p.block < w.heap.size := by
  rcases Nat.lt_or_ge p.block w.heap.size with h' | h'
  · exact h'
  · simp [World.cell?, Array.getElem?_eq_none h'] at h
theorem rowsAt_of {w : World} {a : Option Addr} {len cap : Nat} (h : (a = none ∧ len = 0 ∧ cap = 0) ∨ ∃ x, a = some x ∧ len ≤ cap ∧ cap ≤ maxLen ∧ ∀ r, r < len → ∃ (A : Option Addr) (L C : Nat) (Z : List Int), w.cell? (x.add r) = some (.slice A L C) ∧
      ((A = none ∧ L = 0 ∧ C = 0 ∧ Z = []) ∨ ∃ y, A = some y ∧ L ≤ C ∧ C ≤ maxLen ∧ Z.length = C ∧ (∀ i, i < Z.length → w.cell? (y.add i) = some (.int .u8 (Z.getD i 0))) ∧ ∀ n ∈ Z, (Lit.int .u8 n).wf = true)) :
    RowsAt w a len ∧ len ≤ cap ∧ cap ≤ maxLen := by
  rcases h with ⟨rfl, rfl, rfl⟩ | ⟨x, rfl, h1, h2, h3⟩
  · exact ⟨fun i hi => absurd hi (by omega), Nat.le_refl _, Nat.zero_le _⟩
  · refine ⟨fun i hi => ?_, h1, h2⟩
    obtain ⟨A, L, C, Z, hc, hr⟩ := h3 i hi
    obtain ⟨l, hl, hR, hLC⟩ := row_bytes w A L C Z hr
    have hC : C ≤ maxLen := by
      rcases hr with ⟨_, _, h, _⟩ | ⟨_, _, _, h, _⟩
      · rw [h]; exact Nat.zero_le _
      · exact h
    have hlt := cell_in hc
    rw [blk_add] at hlt
    exact ⟨x, A, L, C, rfl, hlt, hc, hLC, hC, ByteRow.rd hR hl⟩
end Go.Proofs.Ytjlpdfjapepidaa
