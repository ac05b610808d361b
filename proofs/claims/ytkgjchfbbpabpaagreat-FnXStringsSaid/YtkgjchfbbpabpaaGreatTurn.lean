/- Pairs turned into the package's pairs, one by one. Conditions: lengths far below the machine's. -/
import Derived.Test.YtkgjchfbbpabpaaGreatArP
namespace Go.Proofs.YtkgjchfbbpabpaaGreat
open Go.RowKit Go.Lib
set_option linter.unusedVariables false
theorem infoKV : (Tryz.prog.info? 69).map (·.size) = some 2 := by kernel_rfl
theorem infoKVE : (Tryz.prog.info? 69).map (fun i => (i.zero, i.size, i.bytes)) = some (some (.agg #[.string ⟨#[]⟩, .string ⟨#[]⟩]), 2, 32) := by kernel_rfl
theorem results_cell1 {P : Program} {fn : Func} {t : Tmp} {ty : TypeId} (h : fn.results = #[.cell t ty]) (tmps : Array Value) (p : Addr) (w : World) (x : Value) (hp : tmps.getD t undef = .pointer (some p)) (hx : (loadVar ty p).run P w = .ok x w) :
    (results fn tmps).run P w = .ok x w := by
  have hp2 : tmps[t]?.getD undef = .pointer (some p) := by simpa using hp
  simp [results, h, hp2, asAddr, hx]
set_option maxRecDepth 100000 in
set_option maxHeartbeats 1000000 in
theorem kvOf (w : World) (x y : ByteArray) :
    Calls Tryz.prog 30 #[.agg #[.string x, .string y]] w fun e w' => e = .returned (.agg #[.string x, .string y]) ∧ Keeps (fun _ => False) w w' := by
  have hZ : Whole ((w.alloc (.cells #[.string x, .string y] 40)).alloc (.cells #[.string x, .string y] 69)) (w.heap.size + 1) 69 #[.string x, .string y] := by
    have h := Whole.new (w.alloc (.cells #[.string x, .string y] 40)) 69 #[.string x, .string y]
    simp only [World.size_alloc] at h
    exact h
  have k0 := ((Keeps.refl (fun _ => False) w).alloc (.cells #[.string x, .string y] 40)).alloc (.cells #[.string x, .string y] 69)
  have HLD := Lib.hid (run_loadVar_row (P := Tryz.prog) _ (w.heap.size + 1) 69 69 _ (0, 0) _ hZ Tryz.underlying69 rfl infoKV)
  clear hZ
  go_enter Tryz.func30, Tryz.ntmps30
  go_wp2_with fail
  exact bodyPost_ret (results_cell1 rfl _ ⟨w.heap.size + 1, 0, none⟩ _ _ rfl HLD.out) rfl ⟨rfl, k0⟩
theorem takeP {L : List Pr} {k : Nat} {p : Pr} (h : L[k]? = some p) : prC (L.take k) ++ [.string p.1, .string p.2] = prC (L.take (k + 1)) := by
  rw [List.take_add_one, h, ← prC_snoc]; rfl

set_option maxRecDepth 100000 in
set_option maxHeartbeats 2000000 in
theorem turnedKV (w : World) (A : Option Addr) (n c : Nat) (L : List Pr) (hl : L.length = n) (hR : Rd w 2 A n (prC L)) (hn : n ≤ 100000) :
    Calls Tryz.prog 29 #[.slice A n c, .func (.func 30) #[] #[]] w fun e w' => ∃ A' c', e = .returned (.slice A' n c') ∧ w'.ownsRow w.heap.size 69 2 (.slice A' n c') n (prC L) ∧ Keeps (fun _ => False) w w' := by
  obtain ⟨i0, hi0, hz0, hz1, hz2⟩ := info_parts infoKVE
  have HR := Lib.hid hR
  have HL := Lib.hid hl
  have HC := Lib.hid kvOf
  clear hR hl
  go_enter Tryz.func29, Tryz.ntmps29
  go_wp2_with fail
  go_loopw [5, 10] (fun v i wr => ∃ (k : Nat) (A1 : Option Addr) (c1 : Nat), k ≤ n ∧ i = .int .i64 k ∧ v = .slice A1 k c1 ∧ wr.ownsRow w.heap.size 69 2 (.slice A1 k c1) k (prC (L.take k)) ∧ Keeps (fun _ => False) w wr) (fun _ i _ => n - (RowKit.intOf i).toNat)
  case atStart => exact ⟨0, none, 0, Nat.zero_le _, rfl, rfl, World.ownsRow_nil w w.heap.size 69 2, Keeps.refl _ _⟩
  case round =>
    obtain ⟨k, A1, c1, hk, rfl, rfl, hown, hK⟩ := hrel
    have HOW := Lib.hid hown
    have HK := Lib.hid hK
    clear hown hK
    by_cases hlt : k < n
    · obtain ⟨ad, ⟨x, y⟩, rfl, hb, hp, hc1, hc2⟩ := Rd.pair (HR.out.keeps HK.out (fun _ _ h => h)) HL.out hlt
      dsimp only at hc1 hc2
      have hc3 : wr.cell? { block := (ad.add (k * 2)).block, off := (ad.add (k * 2)).off + 1 } = some (.string y) := by rw [← Addr.add_add] at hc2; exact hc2
      have HT := Lib.hid (takeP hp)
      have HC1 := Lib.hid (HC.out (wr.alloc (.cells #[.string x, .string y] 40)) x y)
      have K0 := (Keeps.refl (fun _ => False) wr).alloc (.cells #[.string x, .string y] 40)
      clear hp hc2
      go_wp2_with fail
      refine HC1.out.mono ?_
      rintro e w2 ⟨rfl, K1⟩
      have K2 := (K0.trans K1 (fun _ _ h => h)).alloc (.cells #[.string x, .string y] 69)
      have howna := own_keeps HOW.out K2 (fun _ _ h => h)
      have hKa := HK.out.trans K2 (fun _ _ h => h)
      have hrd := rd_two w2 69 (.string x) (.string y)
      clear K0 K1
      go_wp2_with (at_builtin
                   refine wpList_append_rd _ rfl (.tmp 14) (.tmp 18) _ rfl w.heap.size 69 i0 _ 2 32 Tryz.underlying67 hi0 hz0 hz1 hz2 rfl (by omega) A1 c1 k _ rfl howna (some ⟨w2.heap.size, 0, none⟩) 1 1 [.string x, .string y] rfl hrd (by intro u hu; rcases List.mem_cons.1 hu with rfl | hu; rfl; rw [List.mem_singleton.1 hu]; rfl) (by simp only [maxLen]; omega) (by omega) hKa.size ?_
                   intro A3 c3 w3 hown3 hg3 hat3)
      have hK3 := hKa.grown hg3 (fun i hi => .inr (howna.lt i (by rw [ownBlock_slice]; exact hi)).1)
      rw [HT.out] at hown3
      have HO3 := Lib.hid hown3
      have HK3 := Lib.hid hK3
      clear hown3 hK3 howna hKa K2 hrd
      go_roundw
      case rel => exact ⟨k + 1, A3, c3, by omega, by go_num, rfl, HO3.out, HK3.out⟩
      case measure => (first | (simp [RowKit.intOf]; done) | (simp [RowKit.intOf]; omega))
    · have hkn : k = n := by omega
      subst hkn
      have hown := HOW.out
      rw [List.take_of_length_le (by rw [HL.out]; exact Nat.le_refl _)] at hown
      have HF := Lib.hid hown
      clear hown
      go_wp2_with fail
      go_ret
      exact ⟨A1, c1, rfl, HF.out, HK.out⟩
end Go.Proofs.YtkgjchfbbpabpaaGreat
