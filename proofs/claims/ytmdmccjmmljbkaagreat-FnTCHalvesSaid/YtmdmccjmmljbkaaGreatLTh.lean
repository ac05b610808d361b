/- The law of FnTCHalves. Conditions: the rows read as fours of words. -/
import Derived.Test.YtmdmccjmmljbkaaGreatHm
namespace Go.Proofs.YtmdmccjmmljbkaaGreat
open Go.RowKit Go.Lib
set_option linter.unusedVariables false
def wn (q : W4) (j : Nat) : Nat := [q.1, q.2.1, q.2.2.1, q.2.2.2].getD j 0
theorem wc4_wn (q : W4) (j : Nat) (h : j < 4) : (wc4 q)[j]? = some (.int .u64 ((wn q j : Nat) : Int)) := by
  have : j = 0 ∨ j = 1 ∨ j = 2 ∨ j = 3 := by omega
  rcases this with rfl | rfl | rfl | rfl <;> rfl
theorem take_wn (q : W4) (j : Nat) (h : j < 4) : [q.1, q.2.1, q.2.2.1, q.2.2.2].take j ++ [wn q j] = [q.1, q.2.1, q.2.2.1, q.2.2.2].take (j + 1) := by
  have : j = 0 ∨ j = 1 ∨ j = 2 ∨ j = 3 := by omega
  rcases this with rfl | rfl | rfl | rfl <;> rfl
theorem take_wn2 (q : W4) (j : Nat) (h : j < 2) : [q.1, q.2.1].take j ++ [wn q j] = [q.1, q.2.1].take (j + 1) := by
  have : j = 0 ∨ j = 1 := by omega
  rcases this with rfl | rfl <;> rfl
theorem ones_snoc (xs : List Nat) (x : Nat) : ((ones xs).map wc4).flatten ++ [.int .u64 (x : Int), .int .u64 0, .int .u64 0, .int .u64 0] = ((ones (xs ++ [x])).map wc4).flatten := by simp [ones, wc4]
theorem disj1 {A B C : Option Addr} {n : Nat} (h : ∀ q, ob A = some q → ob B ≠ some q) (hat : ob C = ob A ∨ ob C = some n) (hl : ∀ q, ob B = some q → q < n) : ∀ q, ob C = some q → ob B ≠ some q := fun q hq he => by
  rcases hat with e | e
  · exact h q (e ▸ hq) he
  · rw [hq] at e
    injection e with e
    have := hl q he
    omega
theorem disj2 {A B C : Option Addr} {n : Nat} (h : ∀ q, ob A = some q → ob B ≠ some q) (hat : ob C = ob B ∨ ob C = some n) (hl : ∀ q, ob A = some q → q < n) : ∀ q, ob A = some q → ob C ≠ some q := fun q hq he => by
  rcases hat with e | e
  · exact h q hq (e ▸ he)
  · rw [he] at e
    injection e with e
    have := hl q hq
    omega
theorem own_cap {w : World} {base n c K : Nat} {e : TypeId} {A : Option Addr} {xs : List Value} (h : w.ownsRow base e K (.slice A n c) n xs) : n ≤ c := by
  rcases h.2 with ⟨hn, hz⟩ | ⟨g', cap, cur, he, _, _, hle, _⟩
  · injection hn with h1 h2 h3
    omega
  · injection he with h1 h2 h3
    omega
theorem hInfo4 : (Tryz.prog.info? 24).map (fun i => (i.zero, i.size, i.bytes)) = some (some (.agg #[.int .u64 0, .int .u64 0, .int .u64 0, .int .u64 0]), 4, 32) := by kernel_rfl
theorem oneR (z : Int) : ∀ u ∈ [Value.int .u64 z, .int .u64 0, .int .u64 0, .int .u64 0], u.oneCell' = true := by
  intro u hu
  simp only [List.mem_cons, List.not_mem_nil, or_false] at hu
  rcases hu with rfl | rfl | rfl | rfl <;> rfl
theorem take_two (rs : List W4) (k : Nat) (q : W4) (h : rs[k]? = some q) : two (rs.take k) ++ [q.1, q.2.1] = two (rs.take (k + 1)) := by
  rw [List.take_add_one, h]; exact (two_snoc _ _).symm
theorem take_four (rs : List W4) (k : Nat) (q : W4) (h : rs[k]? = some q) : four (rs.take k) ++ [q.1, q.2.1, q.2.2.1, q.2.2.2] = four (rs.take (k + 1)) := by
  rw [List.take_add_one, h]; exact (four_snoc _ _).symm
theorem two_lt {l : List W4} (h : ∀ q ∈ l, W4Ok q) : ∀ x ∈ two l, x < 18446744073709551616 := by
  intro x hx
  obtain ⟨p, hp, hx⟩ := List.mem_flatten.1 hx
  obtain ⟨q, hq, rfl⟩ := List.mem_map.1 hp
  obtain ⟨a, b, c, d⟩ := h q hq
  simp only [List.mem_cons, List.not_mem_nil, or_false] at hx
  rcases hx with rfl | rfl <;> assumption
theorem four_lt {l : List W4} (h : ∀ q ∈ l, W4Ok q) : ∀ x ∈ four l, x < 18446744073709551616 := by
  intro x hx
  obtain ⟨p, hp, hx⟩ := List.mem_flatten.1 hx
  obtain ⟨q, hq, rfl⟩ := List.mem_map.1 hp
  obtain ⟨a, b, c, d⟩ := h q hq
  simp only [List.mem_cons, List.not_mem_nil, or_false] at hx
  rcases hx with rfl | rfl | rfl | rfl <;> assumption
set_option maxRecDepth 100000 in
set_option maxHeartbeats 4000000 in
theorem thWalk (w : World) (U : Option Addr) (n c : Nat) (rs : List W4) (hU : RowsW w U n rs) (hn : n ≤ 9223372036854775807) (hnc : n ≤ c) (hok : ∀ q ∈ rs, W4Ok q) : Calls Tryz.prog 3 #[.slice U n c] w fun e w' => e = .returned (.bool true) ∧ Below w.heap.size w w' := by
  obtain ⟨i0, hi0, hz0, hz1, hz2⟩ := info_parts hInfo4
  have HU := Lib.hid hU
  have HOK := Lib.hid hok
  clear hU hok
  go_enter Tryz.func3, Tryz.ntmps3
  by_cases hbig : (2147483647 : Int) < (n : Int)
  · go_wp2_with fail
    go_ret
    exact ⟨rfl, Below.refl _ _⟩
  go_wp2_with fail
  go_loopw [3, 4, 5] (fun v f i wr => ∃ (k : Nat) (A1 : Option Addr) (c1 : Nat) (A2 : Option Addr) (c2 : Nat), k ≤ n ∧ k ≤ 15 ∧ i = .int .i64 k ∧ v = .slice A1 (2 * k) c1 ∧ f = .slice A2 (4 * k) c2 ∧ Hid (wr.ownsRow w.heap.size 24 4 (.slice A1 (2 * k) c1) (2 * k) (((ones (two (rs.take k))).map wc4).flatten)) ∧ Hid (wr.ownsRow w.heap.size 24 4 (.slice A2 (4 * k) c2) (4 * k) (((ones (four (rs.take k))).map wc4).flatten)) ∧ Hid (∀ q, ob A1 = some q → ob A2 ≠ some q) ∧ Hid (Keeps (fun _ => False) w wr)) (fun _ _ i _ => n - (RowKit.intOf i).toNat)
  case atStart => exact ⟨0, none, 0, none, 0, Nat.zero_le _, by omega, rfl, rfl, rfl, Lib.hid (World.ownsRow_nil _ _ _ _), Lib.hid (World.ownsRow_nil _ _ _ _), Lib.hid (fun q h => by cases h), Lib.hid (Keeps.refl _ _)⟩
  case round =>
    obtain ⟨k, A1, c1, A2, c2, hk, hk15, rfl, rfl, rfl, H1, H2, HD, HK⟩ := hrel
    by_cases hlt : k < n ∧ k < 15
    · obtain ⟨hltn, hlt15⟩ := hlt
      obtain ⟨q, hq⟩ : ∃ q, rs[k]? = some q := ⟨_, List.getElem?_eq_getElem (by rw [HU.out.1]; exact hltn)⟩
      have HQ := Lib.hid hq
      have h15 : (k : Int) < 15 := by omega
      clear hq
      go_wp2_with fail
      go_loopw [3, 4, 6] (fun v f j w2 => ∃ (j0 t : Nat) (A1 : Option Addr) (c1 : Nat) (A2 : Option Addr) (c2 : Nat), j0 ≤ 4 ∧ j = .int .i64 j0 ∧ Hid (t = 2 * k + min j0 2) ∧ v = .slice A1 t c1 ∧ f = .slice A2 (4 * k + j0) c2 ∧ Hid (w2.ownsRow w.heap.size 24 4 (.slice A1 t c1) t (((ones (two (rs.take k) ++ [q.1, q.2.1].take j0)).map wc4).flatten)) ∧ Hid (w2.ownsRow w.heap.size 24 4 (.slice A2 (4 * k + j0) c2) (4 * k + j0) (((ones (four (rs.take k) ++ [q.1, q.2.1, q.2.2.1, q.2.2.2].take j0)).map wc4).flatten)) ∧ Hid (∀ q, ob A1 = some q → ob A2 ≠ some q) ∧ Hid (Keeps (fun _ => False) w w2)) (fun _ _ j _ => 4 - (RowKit.intOf j).toNat)
      case atStart => exact ⟨0, 2 * k, A1, c1, A2, c2, by omega, rfl, Lib.hid (by omega), rfl, rfl, Lib.hid (by simpa using H1.out), Lib.hid (by simpa using H2.out), HD, HK⟩
      case round =>
        obtain ⟨j, t, B1, d1, B2, d2, hj, rfl, HT, rfl, rfl, G1, G2, GD, GK⟩ := hrel
        by_cases hj4 : j < 4
        · obtain ⟨ad, rfl, hb, hcell⟩ := (HU.out.keeps GK.out).at' HQ.out
          have x0 : wr.cell? ((ad.add (k * 4)).add j) = some (.int .u64 ((wn q j : Nat) : Int)) := hcell j _ (wc4_wn q j hj4)
          have HT4 := Lib.hid (take_wn q j hj4)
          clear hcell
          have htb : t ≤ 32 := by have := HT.out; omega
          have HS2 := Lib.hid (ones_snoc (four (rs.take k) ++ [q.1, q.2.1, q.2.2.1, q.2.2.2].take j) (wn q j))
          rw [List.append_assoc, HT4.out] at HS2
          have hXl : (ad.add (k * 4)).block < wr.heap.size := by rw [blk_add]; exact hb
          have hsz := GK.out.size
          have HX0 := Lib.hid (fun (W : World) (K : Keeps (fun _ => False) w W) => show W.cell? ((ad.add (k * 4)).add j) = some (.int .u64 ((wn q j : Nat) : Int)) from by
            obtain ⟨ad', e, _, hcell⟩ := (HU.out.keeps K).at' HQ.out
            injection e with e
            subst e
            exact hcell j _ (wc4_wn q j hj4))
          have HS2 := Lib.hid (ones_snoc (four (rs.take k) ++ [q.1, q.2.1, q.2.2.1, q.2.2.2].take j) (wn q j))
          rw [List.append_assoc, HT4.out] at HS2
          have hXl : (ad.add (k * 4)).block < wr.heap.size := by rw [blk_add]; exact hb
          have hsz := GK.out.size
          have HX0 := Lib.hid (fun (W : World) (K : Keeps (fun _ => False) w W) => show W.cell? ((ad.add (k * 4)).add j) = some (.int .u64 ((wn q j : Nat) : Int)) from by
            obtain ⟨ad', e, _, hcell⟩ := (HU.out.keeps K).at' HQ.out
            injection e with e
            subst e
            exact hcell j _ (wc4_wn q j hj4))
          have HS2 := Lib.hid (ones_snoc (four (rs.take k) ++ [q.1, q.2.1, q.2.2.1, q.2.2.2].take j) (wn q j))
          rw [List.append_assoc, HT4.out] at HS2
          have hXl : (ad.add (k * 4)).block < wr.heap.size := by rw [blk_add]; exact hb
          have hsz := GK.out.size
          have HX0 := Lib.hid (fun (W : World) (K : Keeps (fun _ => False) w W) => show W.cell? ((ad.add (k * 4)).add j) = some (.int .u64 ((wn q j : Nat) : Int)) from by
            obtain ⟨ad', e, _, hcell⟩ := (HU.out.keeps K).at' HQ.out
            injection e with e
            subst e
            exact hcell j _ (wc4_wn q j hj4))
          have HS2 := Lib.hid (ones_snoc (four (rs.take k) ++ [q.1, q.2.1, q.2.2.1, q.2.2.2].take j) (wn q j))
          rw [List.append_assoc, HT4.out] at HS2
          have hXl : (ad.add (k * 4)).block < wr.heap.size := by rw [blk_add]; exact hb
          have hsz := GK.out.size
          have HX0 := Lib.hid (fun (W : World) (K : Keeps (fun _ => False) w W) => show W.cell? ((ad.add (k * 4)).add j) = some (.int .u64 ((wn q j : Nat) : Int)) from by
            obtain ⟨ad', e, _, hcell⟩ := (HU.out.keeps K).at' HQ.out
            injection e with e
            subst e
            exact hcell j _ (wc4_wn q j hj4))
          have HS2 := Lib.hid (ones_snoc (four (rs.take k) ++ [q.1, q.2.1, q.2.2.1, q.2.2.2].take j) (wn q j))
          rw [List.append_assoc, HT4.out] at HS2
          have hXl : (ad.add (k * 4)).block < wr.heap.size := by rw [blk_add]; exact hb
          have hsz := GK.out.size
          have HX0 := Lib.hid (fun (W : World) (K : Keeps (fun _ => False) w W) => show W.cell? ((ad.add (k * 4)).add j) = some (.int .u64 ((wn q j : Nat) : Int)) from by
            obtain ⟨ad', e, _, hcell⟩ := (HU.out.keeps K).at' HQ.out
            injection e with e
            subst e
            exact hcell j _ (wc4_wn q j hj4))
          by_cases hj2 : j < 2
          · have HT2 := Lib.hid (take_wn2 q j hj2)
            have ka := (Keeps.refl (fun _ => False) wr).alloc (.cells #[.int .u64 ((wn q j : Nat) : Int), .int .u64 0, .int .u64 0, .int .u64 0] 24)
            have g1a := own_keeps G1.out ka (fun _ _ h => h)
            have g2a := own_keeps G2.out ka (fun _ _ h => h)
            have hRa := rdW (w := wr) (t := 24) (K := 4) (vs := [.int .u64 ((wn q j : Nat) : Int), .int .u64 0, .int .u64 0, .int .u64 0]) rfl
            have HS1 := Lib.hid (ones_snoc (two (rs.take k) ++ [q.1, q.2.1].take j) (wn q j))
            rw [List.append_assoc, HT2.out] at HS1
            have HKA := Lib.hid (GK.out.trans ka (fun _ _ h => h))
            clear ka
            go_wp2_with (first
              | (
                 at_builtin
                 refine wpList_append_rd _ rfl (.tmp 41) (.tmp 49) _ rfl w.heap.size 24 i0 _ 4 32 Tryz.underlying22 hi0 hz0 hz1 hz2 rfl (by omega) B2 d2 (4 * k + j) _ rfl g2b (some ⟨w3.heap.size, 0, none⟩) 1 1 _ rfl hRb (oneR _) (by simp only [maxLen]; omega) (by omega) HKB.out.size ?_
                 intro C2 e2 w4 o4 hg4 hat4
                 rw [HS2.out] at o4
                 have kg4 := (Keeps.refl (fun i => ob B2 = some i) _).grown hg4 (fun i hi => .inl hi)
                 have G14 := Lib.hid (own_keeps g1b kg4 (fun i hi h => by rw [ownBlock_slice] at hi; exact HD3.out i hi h))
                 have HO4 := Lib.hid o4
                 have HK4 := Lib.hid (HKB.out.grown hg4 (fun i hi => .inr (g2b.lt i (by rw [ownBlock_slice]; exact hi)).1))
                 have HD4 := Lib.hid (disj2 HD3.out hat4 (fun i hi => (g1b.lt i (by rw [ownBlock_slice]; exact hi)).2))
                 clear o4 hg4 hat4 kg4 hRb)
              | (at_builtin
                 refine wpList_append_rd _ rfl (.tmp 31) (.tmp 39) _ rfl w.heap.size 24 i0 _ 4 32 Tryz.underlying22 hi0 hz0 hz1 hz2 rfl (by omega) B1 d1 t _ rfl g1a (some ⟨wr.heap.size, 0, none⟩) 1 1 _ rfl hRa (oneR _) (by simp only [maxLen]; omega) (by omega) HKA.out.size ?_
                 intro C1 e1 w3 o3 hg3 hat3
                 rw [HS1.out] at o3
                 have kg3 := (Keeps.refl (fun i => ob B1 = some i) _).grown hg3 (fun i hi => .inl hi)
                 have G23 := own_keeps g2a kg3 (fun i hi h => by rw [ownBlock_slice] at hi; exact GD.out i h hi)
                 have K3 := HKA.out.grown hg3 (fun i hi => .inr (g1a.lt i (by rw [ownBlock_slice]; exact hi)).1)
                 have x3 : w3.cell? ((ad.add (k * 4)).add j) = some (.int .u64 ((wn q j : Nat) : Int)) := HX0.out w3 K3
                 have HD3 := Lib.hid (disj1 GD.out hat3 (fun i hi => (g2a.lt i (by rw [ownBlock_slice]; exact hi)).2))
                 have kb := (Keeps.refl (fun _ => False) w3).alloc (.cells #[.int .u64 ((wn q j : Nat) : Int), .int .u64 0, .int .u64 0, .int .u64 0] 24)
                 have g2b := own_keeps G23 kb (fun _ _ h => h)
                 have g1b := own_keeps o3 kb (fun _ _ h => h)
                 have HKB := Lib.hid (K3.trans kb (fun _ _ h => h))
                 have hRb := rdW (w := w3) (t := 24) (K := 4) (vs := [.int .u64 ((wn q j : Nat) : Int), .int .u64 0, .int .u64 0, .int .u64 0]) rfl
                 clear o3 hg3 hat3 kg3 K3 kb G23))
            go_roundw
            case rel => exact ⟨j + 1, t + 1, C1, e1, C2, e2, by omega, by go_num, Lib.hid (by have := HT.out; omega), rfl, rfl, G14, HO4, HD4, HK4⟩
            case measure => (first | (simp [RowKit.intOf]; done) | (simp [RowKit.intOf]; omega))
          · have HS1 := Lib.hid (show [q.1, q.2.1].take j = [q.1, q.2.1].take (j + 1) by rw [List.take_of_length_le (by simp; omega), List.take_of_length_le (by simp; omega)])
            have kb := (Keeps.refl (fun _ => False) wr).alloc (.cells #[.int .u64 ((wn q j : Nat) : Int), .int .u64 0, .int .u64 0, .int .u64 0] 24)
            have g2b := own_keeps G2.out kb (fun _ _ h => h)
            have g1b := own_keeps G1.out kb (fun _ _ h => h)
            have HKB := Lib.hid (GK.out.trans kb (fun _ _ h => h))
            have hRb := rdW (w := wr) (t := 24) (K := 4) (vs := [.int .u64 ((wn q j : Nat) : Int), .int .u64 0, .int .u64 0, .int .u64 0]) rfl
            rw [HS1.out] at g1b
            clear kb
            go_wp2_with (
              at_builtin
              refine wpList_append_rd _ rfl (.tmp 41) (.tmp 49) _ rfl w.heap.size 24 i0 _ 4 32 Tryz.underlying22 hi0 hz0 hz1 hz2 rfl (by omega) B2 d2 (4 * k + j) _ rfl g2b (some ⟨wr.heap.size, 0, none⟩) 1 1 _ rfl hRb (oneR _) (by simp only [maxLen]; omega) (by omega) HKB.out.size ?_
              intro C2 e2 w4 o4 hg4 hat4
              rw [HS2.out] at o4
              have kg4 := (Keeps.refl (fun i => ob B2 = some i) _).grown hg4 (fun i hi => .inl hi)
              have G14 := Lib.hid (own_keeps g1b kg4 (fun i hi h => by rw [ownBlock_slice] at hi; exact GD.out i hi h))
              have HO4 := Lib.hid o4
              have HK4 := Lib.hid (HKB.out.grown hg4 (fun i hi => .inr (g2b.lt i (by rw [ownBlock_slice]; exact hi)).1))
              have HD4 := Lib.hid (disj2 GD.out hat4 (fun i hi => (g1b.lt i (by rw [ownBlock_slice]; exact hi)).2))
              clear o4 hg4 hat4 kg4 hRb)
            go_roundw
            case rel => exact ⟨j + 1, t, B1, d1, C2, e2, by omega, by go_num, Lib.hid (by have := HT.out; omega), rfl, rfl, G14, HO4, HD4, HK4⟩
            case measure => (first | (simp [RowKit.intOf]; done) | (simp [RowKit.intOf]; omega))
        · have hj4e : j = 4 := by omega
          subst hj4e
          have ht : t = 2 * (k + 1) := by have := HT.out; omega
          subst ht
          have g1 := G1.out
          have g2 := G2.out
          rw [List.take_of_length_le (l := [q.1, q.2.1]) (by simp), take_two rs k q HQ.out] at g1
          rw [List.take_of_length_le (l := [q.1, q.2.1, q.2.2.1, q.2.2.2]) (by simp), take_four rs k q HQ.out] at g2
          have HG1 := Lib.hid g1
          have HG2 := Lib.hid g2
          clear g1 g2
          go_wp2_with fail
          go_roundw
          case rel => exact ⟨k + 1, B1, d1, B2, d2, by omega, by omega, by go_num, rfl, rfl, HG1, HG2, GD, GK⟩
          case measure => (first | (simp [RowKit.intOf]; done) | (simp [RowKit.intOf]; omega))
    · by_cases hn15 : (n : Int) ≤ 15
      · have hkn : k = n := by omega
        subst hkn
        by_cases hz : k = 0
        · subst hz
          go_wp2_with fail
          go_ret
          exact ⟨rfl, HK.out.below (Nat.le_refl _) (fun _ h => h.elim)⟩
        have hk4 : ¬ ((4 * k : Nat) : Int) = 0 := by omega
        have HL := Lib.hid (HU.out.keeps HK.out |>.first (Nat.le_refl _))
        have hlen : (rs.take k).length = k := HL.out.1
        have HOKL := Lib.hid (fun q hq => HOK.out q (List.mem_of_mem_take hq) : ∀ q ∈ rs.take k, W4Ok q)
        generalize rs.take k = L at *
        have HC9 := Lib.hid (fun (W : World) (K : Keeps (fun _ => False) wr W) => tcCol10 W U k c L (HL.out.keeps K) (by omega))
        have HC10 := Lib.hid (fun (W : World) (K : Keeps (fun _ => False) wr W) => tcCol11 W U k c L (HL.out.keeps K) (by omega))
        have HT9 := Lib.hid (fun W RA cm (hR : RowsV W RA ((L.map tcut10).map qw)) => tce10 W (.int .i64 (-1)) (.int .u8 0) RA k cm (L.map tcut10) (by rw [List.length_map]; exact hlen) hR (by omega) (fun X hX x hx => by
          obtain ⟨q, hq, rfl⟩ := List.mem_map.1 hX
          exact two_lt HOKL.out x (List.mem_flatten.2 ⟨_, List.mem_map.2 ⟨q, hq, rfl⟩, hx⟩)))
        have HT10 := Lib.hid (fun W RA cm (hR : RowsV W RA ((L.map tcut11).map qw)) => tce11 W (.int .i64 (-1)) (.int .u8 0) RA k cm (L.map tcut11) (by rw [List.length_map]; exact hlen) hR (by omega) (fun X hX x hx => by
          obtain ⟨q, hq, rfl⟩ := List.mem_map.1 hX
          exact four_lt HOKL.out x (List.mem_flatten.2 ⟨_, List.mem_map.2 ⟨q, hq, rfl⟩, hx⟩)))
        have HB9 := Lib.hid (show tb10 (L.map tcut10) = u64s (two L) by rw [← wbs2_words, tb10, List.map_map]; rfl)
        have HB10 := Lib.hid (show tb11 (L.map tcut11) = u64s (four L) by rw [← wbs4_words, tb11, List.map_map]; congr 1; exact List.map_id' _)
        have HE2 := Lib.hid (fun (W : World) (K : Keeps (fun _ => False) wr W) => tcEight W A1 (2 * k) c1 (two L) ⟨by rw [ones, List.length_map, two_length, hlen], (Rd.own H1.out).keeps K (fun _ _ h => h)⟩ (two_lt HOKL.out) (by omega) (own_cap H1.out))
        have HE4 := Lib.hid (fun (W : World) (K : Keeps (fun _ => False) wr W) => tcEight W A2 (4 * k) c2 (four L) ⟨by rw [ones, List.length_map, four_length, hlen], (Rd.own H2.out).keeps K (fun _ _ h => h)⟩ (four_lt HOKL.out) (by omega) (own_cap H2.out))
        have hl1 : (u64s (two L)).length = 16 * k := by rw [u64s_length, two_length, hlen] <;> omega
        have hl2 : (u64s (four L)).length = 32 * k := by rw [u64s_length, four_length, hlen] <;> omega
        generalize u64s (two L) = d1 at *
        generalize u64s (four L) = d2 at *
        obtain ⟨N1, hN1⟩ : ∃ N1, N1 = 16 * k := ⟨_, rfl⟩
        obtain ⟨N2, hN2⟩ : ∃ N2, N2 = 32 * k := ⟨_, rfl⟩
        rw [← hN1] at hl1
        rw [← hN2] at hl2
        have hw1 : IntKind.i64.wrap (16 * (k : Int)) = (N1 : Int) := by rw [IntWalk.i64_in _ (by omega)]; omega
        have hw2 : IntKind.i64.wrap (32 * (k : Int)) = (N2 : Int) := by rw [IntWalk.i64_in _ (by omega)]; omega
        have hN3 := Lib.hid (And.intro hN1 hN2)
        clear hN1 hN2
        have HL1 := Lib.hid hl1
        have HL2 := Lib.hid hl2
        clear hl1 hl2 hlen
        go_wp2_with fail
        refine (HC9.out _ (Keeps.refl _ _)).mono ?_
        rintro e w1 ⟨RA, cm, rfl, hV, K1⟩
        have HT := Lib.hid (HT9.out w1 RA cm hV)
        have HK1 := Lib.hid K1
        clear hV K1
        go_wp2_with fail
        refine HT.out.mono ?_
        rintro e w2 ⟨Aa, ca, he, oa, K2⟩
        rw [HB9.out, HL1.out] at he oa
        subst he
        have RA2 := Lib.hid (Rd.own oa)
        have HK2 := Lib.hid (HK1.out.trans K2 (fun _ _ h => h))
        have HEA := Lib.hid (HE2.out w2 HK2.out)
        clear oa K2
        go_wp2_with fail
        refine HEA.out.mono ?_
        rintro e w3 ⟨Ab, cb, he, ob3, K3⟩
        rw [HL1.out] at he ob3
        subst he
        have RA3 := Lib.hid (RA2.out.keeps K3 (fun _ _ h => h))
        have RB3 := Lib.hid (Rd.own ob3)
        have HK3 := Lib.hid (HK2.out.trans K3 (fun _ _ h => h))
        have HCB := Lib.hid (HC10.out w3 HK3.out)
        clear ob3 K3
        go_wp2_with fail
        refine HCB.out.mono ?_
        rintro e w4 ⟨RB, cmb, rfl, hV, K4⟩
        have HTT := Lib.hid (HT10.out w4 RB cmb hV)
        have RA4 := Lib.hid (RA3.out.keeps K4 (fun _ _ h => h))
        have RB4 := Lib.hid (RB3.out.keeps K4 (fun _ _ h => h))
        have HK4 := Lib.hid (HK3.out.trans K4 (fun _ _ h => h))
        clear hV K4
        go_wp2_with fail
        refine HTT.out.mono ?_
        rintro e w5 ⟨Ac, cc, he, oc, K5⟩
        rw [HB10.out, HL2.out] at he oc
        subst he
        have RA5 := Lib.hid (RA4.out.keeps K5 (fun _ _ h => h))
        have RB5 := Lib.hid (RB4.out.keeps K5 (fun _ _ h => h))
        have RC5 := Lib.hid (Rd.own oc)
        have HK5 := Lib.hid (HK4.out.trans K5 (fun _ _ h => h))
        have HEB := Lib.hid (HE4.out w5 HK5.out)
        clear oc K5
        go_wp2_with fail
        refine HEB.out.mono ?_
        rintro e w6 ⟨Ad, cd, he, od, K6⟩
        rw [HL2.out] at he od
        subst he
        have HK6 := Lib.hid (HK5.out.trans K6 (fun _ _ h => h))
        have va := cv_tx (c := ca) (RA5.out.keeps K6 (fun _ _ h => h))
        have vb := cv_tx (c := cb) (RB5.out.keeps K6 (fun _ _ h => h))
        have vc := cv_tx (c := cc) (RC5.out.keeps K6 (fun _ _ h => h))
        have vd := cv_tx (c := cd) (Rd.own od)
        clear od K6
        go_wp2_with fail
        go_ret
        exact ⟨rfl, (HK.out.trans HK6.out (fun _ _ h => h)).below (Nat.le_refl _) (fun _ h => h.elim)⟩
      · have hkn : k = 15 := by omega
        subst hkn
        have hn16 : (15 : Int) < (n : Int) := by omega
        have HL := Lib.hid (HU.out.keeps HK.out |>.first (by omega))
        have hlen : (rs.take 15).length = 15 := HL.out.1
        have HOKL := Lib.hid (fun q hq => HOK.out q (List.mem_of_mem_take hq) : ∀ q ∈ rs.take 15, W4Ok q)
        generalize rs.take 15 = L at *
        have HC9 := Lib.hid (fun (W : World) (K : Keeps (fun _ => False) wr W) => tcCol10 W U 15 c L (HL.out.keeps K) (by omega))
        have HC10 := Lib.hid (fun (W : World) (K : Keeps (fun _ => False) wr W) => tcCol11 W U 15 c L (HL.out.keeps K) (by omega))
        have HT9 := Lib.hid (fun W RA cm (hR : RowsV W RA ((L.map tcut10).map qw)) => tce10 W (.int .i64 (-1)) (.int .u8 0) RA 15 cm (L.map tcut10) (by rw [List.length_map]; exact hlen) hR (by omega) (fun X hX x hx => by
          obtain ⟨q, hq, rfl⟩ := List.mem_map.1 hX
          exact two_lt HOKL.out x (List.mem_flatten.2 ⟨_, List.mem_map.2 ⟨q, hq, rfl⟩, hx⟩)))
        have HT10 := Lib.hid (fun W RA cm (hR : RowsV W RA ((L.map tcut11).map qw)) => tce11 W (.int .i64 (-1)) (.int .u8 0) RA 15 cm (L.map tcut11) (by rw [List.length_map]; exact hlen) hR (by omega) (fun X hX x hx => by
          obtain ⟨q, hq, rfl⟩ := List.mem_map.1 hX
          exact four_lt HOKL.out x (List.mem_flatten.2 ⟨_, List.mem_map.2 ⟨q, hq, rfl⟩, hx⟩)))
        have HB9 := Lib.hid (show tb10 (L.map tcut10) = u64s (two L) by rw [← wbs2_words, tb10, List.map_map]; rfl)
        have HB10 := Lib.hid (show tb11 (L.map tcut11) = u64s (four L) by rw [← wbs4_words, tb11, List.map_map]; congr 1; exact List.map_id' _)
        have HE2 := Lib.hid (fun (W : World) (K : Keeps (fun _ => False) wr W) => tcEight W A1 (2 * 15) c1 (two L) ⟨by rw [ones, List.length_map, two_length, hlen], (Rd.own H1.out).keeps K (fun _ _ h => h)⟩ (two_lt HOKL.out) (by omega) (own_cap H1.out))
        have HE4 := Lib.hid (fun (W : World) (K : Keeps (fun _ => False) wr W) => tcEight W A2 (4 * 15) c2 (four L) ⟨by rw [ones, List.length_map, four_length, hlen], (Rd.own H2.out).keeps K (fun _ _ h => h)⟩ (four_lt HOKL.out) (by omega) (own_cap H2.out))
        have hl1 : (u64s (two L)).length = 16 * 15 := by rw [u64s_length, two_length, hlen] <;> omega
        have hl2 : (u64s (four L)).length = 32 * 15 := by rw [u64s_length, four_length, hlen] <;> omega
        generalize u64s (two L) = d1 at *
        generalize u64s (four L) = d2 at *
        have HL1 := Lib.hid hl1
        have HL2 := Lib.hid hl2
        clear hl1 hl2 hlen
        go_wp2_with fail
        refine (HC9.out _ (Keeps.refl _ _)).mono ?_
        rintro e w1 ⟨RA, cm, rfl, hV, K1⟩
        have HT := Lib.hid (HT9.out w1 RA cm hV)
        have HK1 := Lib.hid K1
        clear hV K1
        go_wp2_with fail
        refine HT.out.mono ?_
        rintro e w2 ⟨Aa, ca, he, oa, K2⟩
        rw [HB9.out, HL1.out] at he oa
        subst he
        have RA2 := Lib.hid (Rd.own oa)
        have HK2 := Lib.hid (HK1.out.trans K2 (fun _ _ h => h))
        have HEA := Lib.hid (HE2.out w2 HK2.out)
        clear oa K2
        go_wp2_with fail
        refine HEA.out.mono ?_
        rintro e w3 ⟨Ab, cb, he, ob3, K3⟩
        rw [HL1.out] at he ob3
        subst he
        have RA3 := Lib.hid (RA2.out.keeps K3 (fun _ _ h => h))
        have RB3 := Lib.hid (Rd.own ob3)
        have HK3 := Lib.hid (HK2.out.trans K3 (fun _ _ h => h))
        have HCB := Lib.hid (HC10.out w3 HK3.out)
        clear ob3 K3
        go_wp2_with fail
        refine HCB.out.mono ?_
        rintro e w4 ⟨RB, cmb, rfl, hV, K4⟩
        have HTT := Lib.hid (HT10.out w4 RB cmb hV)
        have RA4 := Lib.hid (RA3.out.keeps K4 (fun _ _ h => h))
        have RB4 := Lib.hid (RB3.out.keeps K4 (fun _ _ h => h))
        have HK4 := Lib.hid (HK3.out.trans K4 (fun _ _ h => h))
        clear hV K4
        go_wp2_with fail
        refine HTT.out.mono ?_
        rintro e w5 ⟨Ac, cc, he, oc, K5⟩
        rw [HB10.out, HL2.out] at he oc
        subst he
        have RA5 := Lib.hid (RA4.out.keeps K5 (fun _ _ h => h))
        have RB5 := Lib.hid (RB4.out.keeps K5 (fun _ _ h => h))
        have RC5 := Lib.hid (Rd.own oc)
        have HK5 := Lib.hid (HK4.out.trans K5 (fun _ _ h => h))
        have HEB := Lib.hid (HE4.out w5 HK5.out)
        clear oc K5
        go_wp2_with fail
        refine HEB.out.mono ?_
        rintro e w6 ⟨Ad, cd, he, od, K6⟩
        rw [HL2.out] at he od
        subst he
        have HK6 := Lib.hid (HK5.out.trans K6 (fun _ _ h => h))
        have va := cv_tx (c := ca) (RA5.out.keeps K6 (fun _ _ h => h))
        have vb := cv_tx (c := cb) (RB5.out.keeps K6 (fun _ _ h => h))
        have vc := cv_tx (c := cc) (RC5.out.keeps K6 (fun _ _ h => h))
        have vd := cv_tx (c := cd) (Rd.own od)
        clear od K6
        go_wp2_with fail
        go_ret
        exact ⟨rfl, (HK.out.trans HK6.out (fun _ _ h => h)).below (Nat.le_refl _) (fun _ h => h.elim)⟩
end Go.Proofs.YtmdmccjmmljbkaaGreat
