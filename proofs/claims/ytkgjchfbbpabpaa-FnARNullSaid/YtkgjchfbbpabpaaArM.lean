/- The values that the laws on nullable columns look at. Conditions: lengths that an argument can have. -/
import Derived.Test.YtkgjchfbbpabpaaMay
import Derived.Test.YtkgjchfbbpabpaaArP
namespace Go.Proofs.Ytkgjchfbbpabpaa
open Go.RowKit Go.Lib
set_option linter.unusedVariables false
theorem infoMbE : (Try.prog.info? 48).map (fun i => (i.zero, i.size, i.bytes)) = some (some (.agg #[.bool false, .string ⟨#[]⟩]), 2, 24) := by kernel_rfl
def cutM (p : Mb) : Mb := if p.1 then (true, cut60 p.2) else (false, ⟨#[]⟩)
def maybesOf (L : List Mb) : List Mb := (L.take 40).map cutM ++ [(true, ⟨#[115, 101, 116]⟩), (false, ⟨#[]⟩)]
theorem cutM_step {L : List Mb} {k : Nat} {p : Mb} (h : L[k]? = some p) : mbC ((L.take k).map cutM) ++ [.bool (cutM p).1, .string (cutM p).2] = mbC ((L.take (k + 1)).map cutM) := by
  rw [List.take_add_one, h, List.map_append, ← mbC_snoc]; rfl
theorem rd_four (w : World) (t : TypeId) (a b c d : Value) : Rd (w.alloc (.cells #[a, b, c, d] t)) 2 (some ⟨w.heap.size, 0, none⟩) 2 [a, b, c, d] := by
  have hw := Whole.new w t #[a, b, c, d]
  exact ⟨rfl, fun _ => ⟨_, rfl, hw.lt, fun j x hx => by rw [add_lit', Nat.zero_add, hw.cell j, ← Array.getElem?_toList]; exact hx⟩⟩
def MbRes (w : World) (L : List Mb) (n : Nat) (e : Ending) (w' : World) : Prop := ∃ A c, e = .returned (.slice A n c) ∧ w'.ownsRow w.heap.size 48 2 (.slice A n c) n (mbC L) ∧ Keeps (fun _ => False) w w'

set_option maxRecDepth 100000 in
set_option maxHeartbeats 4000000 in
theorem arMaybes (w : World) (A : Option Addr) (n c : Nat) (L : List Mb) (hl : L.length = n) (hR : Rd w 2 A n (mbC L)) (hn : n ≤ 9223372036854775807) :
    Calls Try.prog 19 #[.slice A n c] w fun e w' => MbRes w (maybesOf L) (maybesOf L).length e w' := by
  obtain ⟨i0, hi0, hz0, hz1, hz2⟩ := info_parts infoMbE
  have HR := Lib.hid hR
  have HL := Lib.hid hl
  clear hR hl
  go_enter Try.func19, Try.ntmps19
  go_wp2_with fail
  go_loopw [3, 4] (fun v i wr => ∃ (k : Nat) (A1 : Option Addr) (c1 : Nat), k ≤ n ∧ k ≤ 40 ∧ i = .int .i64 k ∧ v = .slice A1 k c1 ∧ wr.ownsRow w.heap.size 48 2 (.slice A1 k c1) k (mbC ((L.take k).map cutM)) ∧ Keeps (fun _ => False) w wr) (fun _ i _ => 40 - (RowKit.intOf i).toNat)
  case atStart => exact ⟨0, none, 0, Nat.zero_le _, Nat.zero_le _, rfl, rfl, World.ownsRow_nil w w.heap.size 48 2, Keeps.refl _ _⟩
  case round =>
    obtain ⟨k, A1, c1, hk, hk40, rfl, rfl, hown, hK⟩ := hrel
    have HOW := Lib.hid hown
    have HK := Lib.hid hK
    clear hown hK
    by_cases hlt : k < n ∧ k < 40
    · obtain ⟨hlt, hlm⟩ := hlt
      have l1 : (k : Int) < (n : Int) := by omega
      have l2 : (k : Int) < (40 : Int) := by omega
      obtain ⟨ad, ⟨b, y⟩, rfl, hb, hp, hc1, hc2⟩ := Rd.maybe (HR.out.keeps HK.out (fun _ _ h => h)) HL.out hlt
      dsimp only at hc1 hc2
      have hc3 : wr.cell? { block := (ad.add (k * 2)).block, off := (ad.add (k * 2)).off + 1 } = some (.string y) := by rw [← Addr.add_add] at hc2; exact hc2
      have hst := cutM_step hp
      clear hp hc2
      cases b with
      | false =>
        have HT := Lib.hid (show mbC ((L.take k).map cutM) ++ [.bool false, .string ⟨#[]⟩] = mbC ((L.take (k + 1)).map cutM) from hst)
        have K1 := ((Keeps.refl (fun _ => False) wr).alloc (.cells #[.bool false, .string ⟨#[]⟩] 48)).alloc (.cells #[.bool false, .string ⟨#[]⟩] 48)
        have howna := own_keeps HOW.out K1 (fun _ _ h => h)
        have hKa := HK.out.trans K1 (fun _ _ h => h)
        have hrd : Rd ((wr.alloc (.cells #[.bool false, .string ⟨#[]⟩] 48)).alloc (.cells #[.bool false, .string ⟨#[]⟩] 48)) 2 (some ⟨wr.heap.size + 1, 0, none⟩) 1 [.bool false, .string ⟨#[]⟩] := by
          have h := rd_two (wr.alloc (.cells #[.bool false, .string ⟨#[]⟩] 48)) 48 (.bool false) (.string ⟨#[]⟩)
          simp only [World.size_alloc] at h
          exact h
        clear hst
        go_wp2_with (at_builtin
                     refine wpList_append_rd _ rfl (.tmp 34) (.tmp 36) _ rfl w.heap.size 48 i0 _ 2 24 Try.underlying40 hi0 hz0 hz1 hz2 rfl (by omega) A1 c1 k _ rfl howna (some ⟨wr.heap.size + 1, 0, none⟩) 1 1 [.bool false, .string ⟨#[]⟩] rfl hrd (by intro u hu; rcases List.mem_cons.1 hu with rfl | hu; rfl; rw [List.mem_singleton.1 hu]; rfl) (by simp only [maxLen]; omega) (by omega) hKa.size ?_
                     intro A3 c3 w9 hown3 hg3 hat3)
        have hK3 := hKa.grown hg3 (fun i hi => .inr (howna.lt i (by rw [ownBlock_slice]; exact hi)).1)
        rw [HT.out] at hown3
        have HO3 := Lib.hid hown3
        have HK3 := Lib.hid hK3
        clear hown3 hK3
        go_roundw
        case rel => exact ⟨k + 1, A3, c3, by omega, by omega, by go_num, rfl, HO3.out, HK3.out⟩
        case measure => (first | (simp [RowKit.intOf]; done) | (simp [RowKit.intOf]; omega))
      | true =>
        have HT := Lib.hid (show mbC ((L.take k).map cutM) ++ [.bool true, .string (cut60 y)] = mbC ((L.take (k + 1)).map cutM) from hst)
        clear hst
        have hs1 : (World.heap (wr.alloc (.cells #[.bool true, .string ⟨#[]⟩] 48))).size = wr.heap.size + 1 := by simp
        have hW0 := Whole.new wr 48 #[.bool true, .string ⟨#[]⟩]
        have Ka := (Keeps.refl (fun _ => False) wr).alloc (.cells #[.bool true, .string ⟨#[]⟩] 48)
        have Kb := (Keeps.refl (fun _ => False) (wr.alloc (.cells #[.bool true, .string ⟨#[]⟩] 48))).alloc (.cells #[.string y] 9)
        have hWs := Whole.new (wr.alloc (.cells #[.bool true, .string ⟨#[]⟩] 48)) 9 #[.string y]
        rw [hs1] at hWs
        have HW := Lib.hid (show Calls Try.prog 24 #[.slice (some ⟨wr.heap.size + 1, 0, none⟩) 1 1, .int .i64 1] ((wr.alloc (.cells #[.bool true, .string ⟨#[]⟩] 48)).alloc (.cells #[.string y] 9)) (fun e w' => OwnRes ((wr.alloc (.cells #[.bool true, .string ⟨#[]⟩] 48)).alloc (.cells #[.string y] 9)) 9 [.string (cut60 y)] 1 e w') from arWords _ (some ⟨wr.heap.size + 1, 0, none⟩) 1 1 1 [y] rfl (Rd.whole hWs rfl rfl) (by omega) (by omega))
        have HW1 := Lib.hid (hW0.keeps Kb (fun h => h))
        have HKab := Lib.hid (Ka.trans Kb (fun _ _ h => h))
        have hc4 : (wr.alloc (.cells #[.bool true, .string ⟨#[]⟩] 48)).cell? { block := (ad.add (k * 2)).block, off := (ad.add (k * 2)).off + 1 } = some (.string y) := cellK Ka hc3
        clear hs1 hW0 Ka Kb hWs
        go_wp2_with fail
        refine HW.out.mono ?_
        rintro e w3 ⟨Aw, cw, rfl, ow, Kw, _⟩
        obtain ⟨g2, rfl⟩ := (own_cap ow).2.2 (by omega)
        obtain ⟨ad2, e2, hb2, hcc⟩ := (Rd.own ow).2 (by omega)
        injection e2 with e2
        subst e2
        have d0 : w3.cell? ⟨g2, 0, none⟩ = some (.string (cut60 y)) := by have := hcc 0 _ rfl; rwa [add_lit', Nat.zero_add] at this
        have hW3 := HW1.out.keeps Kw (fun h => h)
        have f0 : w3.cell? ⟨wr.heap.size, 0, none⟩ = some (.bool true) := hW3.cell 0
        have f1 : w3.cell? ⟨wr.heap.size, 1, none⟩ = some (.string ⟨#[]⟩) := hW3.cell 1
        have f2 : w3.frozen? ⟨wr.heap.size, 1, none⟩ = false := hW3.frozen 1
        have hW4 := hW3.put 1 (.string (cut60 y))
        have f3 : (w3.setCell ⟨wr.heap.size, 1, none⟩ (.string (cut60 y))).cell? ⟨wr.heap.size, 0, none⟩ = some (.bool true) := hW4.cell 0
        have f4 : (w3.setCell ⟨wr.heap.size, 1, none⟩ (.string (cut60 y))).cell? ⟨wr.heap.size, 1, none⟩ = some (.string (cut60 y)) := hW4.cell 1
        have hlt3 := hW3.lt
        have Kall := ((HKab.out.trans Kw (fun _ _ h => h)).setCell (p := ⟨wr.heap.size, 1, none⟩) (.inr (Nat.le_refl _)) (.string (cut60 y))).alloc (.cells #[.bool true, .string (cut60 y)] 48)
        have howna := own_keeps HOW.out Kall (fun _ _ h => h)
        have hKa := HK.out.trans Kall (fun _ _ h => h)
        have hsz : (World.heap (w3.setCell ⟨wr.heap.size, 1, none⟩ (.string (cut60 y)))).size = w3.heap.size := by simp [World.setCell]
        have hrd := rd_two (w3.setCell ⟨wr.heap.size, 1, none⟩ (.string (cut60 y))) 48 (.bool true) (.string (cut60 y))
        rw [hsz] at hrd
        clear hcc ow hW3 hW4 hsz Kall
        go_wp2_with (at_builtin
                     refine wpList_append_rd _ rfl (.tmp 34) (.tmp 36) _ rfl w.heap.size 48 i0 _ 2 24 Try.underlying40 hi0 hz0 hz1 hz2 rfl (by omega) A1 c1 k _ rfl howna (some ⟨w3.heap.size, 0, none⟩) 1 1 [.bool true, .string (cut60 y)] rfl hrd (by intro u hu; rcases List.mem_cons.1 hu with rfl | hu; rfl; rw [List.mem_singleton.1 hu]; rfl) (by simp only [maxLen]; omega) (by omega) hKa.size ?_
                     intro A3 c3 w9 hown3 hg3 hat3)
        have hK3 := hKa.grown hg3 (fun i hi => .inr (howna.lt i (by rw [ownBlock_slice]; exact hi)).1)
        rw [HT.out] at hown3
        have HO3 := Lib.hid hown3
        have HK3 := Lib.hid hK3
        clear hown3 hK3
        go_roundw
        case rel => exact ⟨k + 1, A3, c3, by omega, by omega, by go_num, rfl, HO3.out, HK3.out⟩
        case measure => (first | (simp [RowKit.intOf]; done) | (simp [RowKit.intOf]; omega))
    · have HE := Lib.hid (show mbC ((L.take k).map cutM ++ [(true, ⟨#[115, 101, 116]⟩), (false, ⟨#[]⟩)]) = mbC (maybesOf L) by
        rw [maybesOf]
        by_cases e : k = 40
        · rw [e]
        · have : k = n := by omega
          rw [List.take_of_length_le (by rw [HL.out]; omega), List.take_of_length_le (by rw [HL.out]; omega)])
      have HKL := Lib.hid (show (maybesOf L).length = k + 2 by rw [maybesOf, List.length_append, List.length_map, List.length_take, HL.out]; simp; omega)
      have hnot : (k : Int) < (n : Int) → ¬ (k : Int) < (40 : Int) := by omega
      clear hlt
      have KX := (Keeps.refl (fun _ => False) wr).alloc (.cells #[.bool true, .string ⟨#[115, 101, 116]⟩, .bool false, .string ⟨#[]⟩] 48)
      have howna := own_keeps HOW.out KX (fun _ _ h => h)
      have hKa := HK.out.trans KX (fun _ _ h => h)
      have hrd : Rd (wr.alloc (.cells #[.bool true, .string ⟨#[115, 101, 116]⟩, .bool false, .string ⟨#[]⟩] 48)) 2 (some ⟨wr.heap.size, 0, none⟩) 2 (mbC [(true, ⟨#[115, 101, 116]⟩), (false, ⟨#[]⟩)]) := rd_four wr 48 _ _ _ _
      clear KX
      by_cases q1 : (k : Int) < (n : Int)
      · have q2 : ¬ (k : Int) < (40 : Int) := hnot q1
        clear hnot
        go_wp2_with (at_builtin
                     refine wpList_append_rd _ rfl (.tmp 38) (.tmp 41) _ rfl w.heap.size 48 i0 _ 2 24 Try.underlying40 hi0 hz0 hz1 hz2 rfl (by omega) A1 c1 k _ rfl howna (some ⟨wr.heap.size, 0, none⟩) 2 2 (mbC [(true, ⟨#[115, 101, 116]⟩), (false, ⟨#[]⟩)]) rfl hrd (mbC_one _) (by simp only [maxLen]; omega) (by omega) hKa.size ?_
                     intro A3 c3 w9 hown3 hg3 hat3)
        have hK3 := hKa.grown hg3 (fun i hi => .inr (howna.lt i (by rw [ownBlock_slice]; exact hi)).1)
        rw [← mbC_append, HE.out] at hown3
        have HO3 := Lib.hid hown3
        have HK3 := Lib.hid hK3
        clear hown3 hK3
        go_ret
        rw [HKL.out]
        exact ⟨A3, c3, rfl, HO3.out, HK3.out⟩
      · clear hnot
        go_wp2_with (at_builtin
                     refine wpList_append_rd _ rfl (.tmp 38) (.tmp 41) _ rfl w.heap.size 48 i0 _ 2 24 Try.underlying40 hi0 hz0 hz1 hz2 rfl (by omega) A1 c1 k _ rfl howna (some ⟨wr.heap.size, 0, none⟩) 2 2 (mbC [(true, ⟨#[115, 101, 116]⟩), (false, ⟨#[]⟩)]) rfl hrd (mbC_one _) (by simp only [maxLen]; omega) (by omega) hKa.size ?_
                     intro A3 c3 w9 hown3 hg3 hat3)
        have hK3 := hKa.grown hg3 (fun i hi => .inr (howna.lt i (by rw [ownBlock_slice]; exact hi)).1)
        rw [← mbC_append, HE.out] at hown3
        have HO3 := Lib.hid hown3
        have HK3 := Lib.hid hK3
        clear hown3 hK3
        go_ret
        rw [HKL.out]
        exact ⟨A3, c3, rfl, HO3.out, HK3.out⟩
end Go.Proofs.Ytkgjchfbbpabpaa
