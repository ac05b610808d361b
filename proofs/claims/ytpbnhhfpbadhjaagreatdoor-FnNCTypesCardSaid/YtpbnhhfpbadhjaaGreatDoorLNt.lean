/- The law that the kinds of numbers have the names of their types. Conditions: the specification's table of names is laid. -/
import Derived.Test.YtpbnhhfpbadhjaaGreatDoorNt
import Derived.Lib.LaidTab
import Derived.Deep.LoopGhost
import Derived.Below
namespace Go.Proofs.YtpbnhhfpbadhjaaGreatDoor
open Go.RowKit Go.Lib
set_option linter.unusedVariables false
def ncN : List ByteArray := [⟨#[]⟩, ⟨#[73, 110, 116, 56]⟩, ⟨#[73, 110, 116, 49, 54]⟩, ⟨#[73, 110, 116, 51, 50]⟩, ⟨#[73, 110, 116, 54, 52]⟩, ⟨#[73, 110, 116, 49, 50, 56]⟩, ⟨#[73, 110, 116, 50, 53, 54]⟩, ⟨#[85, 73, 110, 116, 56]⟩, ⟨#[85, 73, 110, 116, 49, 54]⟩, ⟨#[85, 73, 110, 116, 51, 50]⟩, ⟨#[85, 73, 110, 116, 54, 52]⟩, ⟨#[85, 73, 110, 116, 49, 50, 56]⟩, ⟨#[85, 73, 110, 116, 50, 53, 54]⟩, ⟨#[70, 108, 111, 97, 116, 51, 50]⟩, ⟨#[70, 108, 111, 97, 116, 54, 52]⟩, ⟨#[66, 70, 108, 111, 97, 116, 49, 54]⟩, ⟨#[66, 111, 111, 108]⟩, ⟨#[73, 80, 118, 52]⟩, ⟨#[73, 80, 118, 54]⟩, ⟨#[85, 85, 73, 68]⟩, ⟨#[69, 110, 117, 109, 56]⟩, ⟨#[69, 110, 117, 109, 49, 54]⟩]
def nmOf (k : Nat) : ByteArray := ncN.getD k ⟨#[]⟩
def strData {H : Type} (ss : List ByteArray) : DataW H := .agg (ss.map fun s => .lit (.string s.data.toList))
theorem cells_of_strs {H : Type} {enc : TypeId × Value → H} {P : Program} {w : World} {base : Nat} {sp : Nat → Bool} {held : Bool} {fuel : Nat} {t e : TypeId} {n : Nat} {cs : List Value} {ss : List ByteArray} {p : List MemPlace}
    (ht : P.underlying t = some (.array n e)) (he : P.underlying e = some .string) (hce : P.cellsOf e = 1) (hct : P.cellsOf t = n)
    (h : DataW.trod enc P w base sp held fuel t cs = some (strData ss, p)) : cs = ss.map Value.string := by
  cases fuel with
  | zero => simp [DataW.trod] at h
  | succ fuel =>
    simp only [DataW.trod, ht, hce, hct, Nat.mul_one] at h
    split at h
    · rename_i hl
      obtain ⟨xs, hm, hx⟩ := Option.map_eq_some_iff.1 h
      have hxs : xs.map (·.1) = ss.map fun s => (DataW.lit (.string s.data.toList) : DataW H) := by
        have := congrArg Prod.fst hx
        simpa [strData] using this
      have hxl : xs.length = n := by simpa using mapM_length hm
      have hzl : ss.length = n := by
        have := congrArg List.length hxs
        simp at this
        omega
      apply List.ext_getElem?
      intro i
      by_cases hi : i < n
      · obtain ⟨b, hb, hf⟩ := mapM_at hm i i (by simp [hi])
        obtain ⟨s, hc, rfl, _⟩ := DataW.trod_string he hf
        have h1 : cs[i]? = some (.string s) := by
          have := congrArg (·[0]?) hc
          simpa [List.getElem?_take, List.getElem?_drop] using this
        have h2 : (xs.map (·.1))[i]? = some (DataW.lit (.string s.data.toList) : DataW H) := by simp [hb]
        rw [hxs] at h2
        simp only [List.getElem?_map, Option.map_eq_some_iff, DataW.lit.injEq, Lit.string.injEq] at h2
        obtain ⟨s', hs', hd⟩ := h2
        have hss : s' = s := by
          cases s'; cases s
          simpa using hd
        subst hss
        simp [h1, hs']
      · rw [List.getElem?_eq_none (by omega), List.getElem?_eq_none (by simp; omega)]
    · cases h
def NamesIn (w : World) : Prop := ∀ k, k < 22 → w.cell? ⟨0, k, none⟩ = some (.string (nmOf k))
theorem names_laid {w : World} (h : laidMet Tryz.prog [("given.example/pub-clapboard/spec.ncNames", strData ncN)] w) : NamesIn w := by
  obtain ⟨ps, ⟨g', t', cs, fuel, p, q, hg', ht', hvar, hd, _, _⟩, _⟩ := h
  obtain rfl := Option.some.inj ((show Tryz.prog.globalNamed "given.example/pub-clapboard/spec.ncNames" = some 0 by kernel_rfl).symm.trans hg')
  obtain rfl := Option.some.inj ((show (Tryz.prog.globals[0]?).map (·.type) = some 29 by kernel_rfl).symm.trans ht')
  have hc := cells_of_strs (ss := ncN) Tryz.underlying29 Tryz.underlying9 (by kernel_rfl) (by kernel_rfl) hd
  intro k hk
  have h1 := World.var?_cell hg' hvar k
  rw [h1, ← Array.getElem?_toList, hc, List.getElem?_map]
  rw [nmOf, List.getD_eq_getElem?_getD]
  have hl : k < ncN.length := hk
  rw [List.getElem?_eq_getElem hl]
  rfl
theorem ncTypeAll (k : Nat) (h1 : 1 ≤ k) (h2 : k < 22) (w : World) : Calls Tryz.prog 4 #[.int .i64 (k : Int)] w fun e w' => e = .returned (.string (nmOf k)) ∧ Keeps (fun _ => False) w w' := by
  match k, h1, h2 with
  | 1, _, _ => exact ncType1 w
  | 2, _, _ => exact ncType2 w
  | 3, _, _ => exact ncType3 w
  | 4, _, _ => exact ncType4 w
  | 5, _, _ => exact ncType5 w
  | 6, _, _ => exact ncType6 w
  | 7, _, _ => exact ncType7 w
  | 8, _, _ => exact ncType8 w
  | 9, _, _ => exact ncType9 w
  | 10, _, _ => exact ncType10 w
  | 11, _, _ => exact ncType11 w
  | 12, _, _ => exact ncType12 w
  | 13, _, _ => exact ncType13 w
  | 14, _, _ => exact ncType14 w
  | 15, _, _ => exact ncType15 w
  | 16, _, _ => exact ncType16 w
  | 17, _, _ => exact ncType17 w
  | 18, _, _ => exact ncType18 w
  | 19, _, _ => exact ncType19 w
  | 20, _, _ => exact ncType20 w
  | 21, _, _ => exact ncType21 w
  | k + 22, _, h => exact absurd h (by omega)
set_option maxRecDepth 100000 in
theorem ncNameW (k : Nat) (h2 : k < 22) (w : World) (hT : w.cell? ⟨0, k, none⟩ = some (.string (nmOf k))) : Calls Tryz.prog 5 #[.int .i64 (k : Int)] w fun e w' => e = .returned (.string (nmOf k)) ∧ w' = w := by
  have hi : (k : Int) < 22 := by omega
  generalize nmOf k = s at *
  go_enter Tryz.func5, Tryz.ntmps5
  go_wp2
  go_ret
  exact ⟨rfl, rfl⟩
set_option maxRecDepth 100000 in
set_option maxHeartbeats 1000000 in
theorem ncLaw (w : World) (hT : NamesIn w) : Calls Tryz.prog 3 #[] w fun e w' => e = .returned (.bool true) ∧ Below w.heap.size w w' := by
  have hg : 0 < w.heap.size := by
    have := hT 0 (by omega)
    rcases Nat.lt_or_ge 0 w.heap.size with h | h
    · exact h
    · simp [World.cell?, Array.getElem?_eq_none h] at this
  have HT := Lib.hid hT
  have HG := Lib.hid hg
  clear hT hg
  go_enter Tryz.func3, Tryz.ntmps3
  go_wp2_with fail
  go_loopg [1] 21 (fun gk i wr => ∃ k : Nat, 1 ≤ k ∧ k ≤ 22 ∧ gk = 22 - k ∧ i = .int .i64 k ∧ Keeps (fun _ => False) w wr)
  case atStart => exact ⟨1, by omega, by omega, by omega, rfl, Keeps.refl _ _⟩
  case round =>
    obtain ⟨k, h1, h2, hgk, rfl, hK⟩ := hrel
    by_cases hlt : k < 22
    · have hi : (k : Int) < 22 := by omega
      have HN := Lib.hid (ncTypeAll k h1 hlt wr)
      have HM := Lib.hid (fun (w' : World) (K : Keeps (fun _ => False) wr w') => ncNameW k hlt w' (((hK.trans K (fun _ _ h => h)).cell (p := ⟨0, k, none⟩) HG.out (fun h => h)).trans (HT.out k hlt)))
      generalize nmOf k = s at *
      go_wp2_with fail
      refine HN.out.mono ?_
      rintro e w1 ⟨rfl, K1⟩
      go_wp2_with fail
      refine (HM.out w1 K1).mono ?_
      rintro e w2 ⟨rfl, rfl⟩
      have hK2 := hK.trans K1 (fun _ _ h => h)
      go_wp2_with fail
      go_roundg (22 - (k + 1))
      case measure => omega
      case rel => exact ⟨k + 1, by omega, by omega, rfl, by go_num, hK2⟩
    · have hi : ¬ (k : Int) < 22 := by omega
      go_wp2_with fail
      go_ret
      exact ⟨rfl, hK.below (Nat.le_refl _) (fun _ h => h.elim)⟩
end Go.Proofs.YtpbnhhfpbadhjaaGreatDoor
