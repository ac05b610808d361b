/- One row of a column of strings. Conditions: sizes far below the machine's. -/
import Derived.Test.YtpcjifhklofofaaCol
import Derived.Test.YtpcjifhklofofaaAe
import Derived.Test.YtpcjifhklofofaaRdr
namespace Go.Proofs.Ytpcjifhklofofaa
open Go.RowKit Go.Lib
set_option linter.unusedVariables false
theorem part_of {L : List (List UInt8)} {k : Nat} {x : List UInt8} (hx : L[k]? = some x) : ((L.flatten).drop ((L.take k).flatten.length)).take x.length = x ∧ (L.take k).flatten.length + x.length ≤ L.flatten.length := by
  have h1 : L = L.take k ++ x :: L.drop (k + 1) := by
    obtain ⟨h3, h4⟩ := List.getElem?_eq_some_iff.1 hx
    rw [← h4, List.getElem_cons_drop, List.take_append_drop]
  have h5 : L.flatten = (L.take k).flatten ++ (x ++ (L.drop (k + 1)).flatten) := by
    conv => lhs; rw [h1]
    simp
  refine ⟨by rw [h5, List.drop_left, List.take_left], ?_⟩
  rw [h5, List.length_append, List.length_append]
  omega
theorem cv_row {w : World} {A : Option Addr} {n c : Nat} {l : List UInt8} (h : Rd w 1 A n (Lib.byteCells l)) : (convert 25 9 (.slice A n c)).run Try.prog w = .ok (.string ⟨l.toArray⟩) w :=
  run_str_rd Try.underlying25 Try.underlying5 Try.underlying9 h
theorem Rd.firstS {w : World} {n k : Nat} {A : Option Addr} {xs : List Value} (h : Rd w 1 A n xs) (hk : k ≤ n) : Rd w 1 A k (xs.take k) := by
  obtain ⟨h1, h2⟩ := h
  refine ⟨by rw [List.length_take]; omega, fun h0 => ?_⟩
  obtain ⟨ad, e, hb, hc⟩ := h2 (by omega)
  exact ⟨ad, e, hb, fun j u hu => hc j u (by
    rw [List.getElem?_take] at hu
    split at hu
    · exact hu
    · cases hu)⟩
set_option maxRecDepth 100000 in
set_option maxHeartbeats 2000000 in
theorem strRow (w : World) (base g : Nat) (A : Option Addr) (c : Nat) (B : Option Addr) (d : Nat) (L : List (List UInt8)) (k : Nat) (x : List UInt8) (hC : ColAt w base g A c B d L) (hx : L[k]? = some x) (hN : L.flatten.length ≤ 1000000000) (hn : L.length ≤ 1000000) :
    Calls Try.prog 31 #[.agg #[.slice A L.flatten.length c, .slice B L.length d], .int .i64 (k : Int)] w fun e w' => e = .returned (.string ⟨x.toArray⟩) ∧ Keeps (fun _ => False) w w' := by
  obtain ⟨i0, hi0, hz0, hz1, hz2⟩ := info_parts infoU8
  have hk : k < L.length := (List.getElem?_eq_some_iff.1 hx).1
  obtain ⟨hpart, hle⟩ := part_of hx
  have hps := posCells_get 0 L k x hx
  rw [Nat.zero_add] at hps
  obtain ⟨c1, c2, cA⟩ := own_cap hC.buf
  obtain ⟨d1, d2, cB⟩ := own_cap hC.pos
  obtain ⟨gB, rfl⟩ := cB (by omega)
  have K0 := (Keeps.refl (fun _ => False) w).alloc (.cells #[.slice A L.flatten.length c, .slice (some ⟨gB, 0, none⟩) L.length d] 57)
  have hC1 := hC.new K0
  obtain ⟨ad, had, hadb, hadc⟩ := (Rd.own hC1.pos).2 (by omega)
  injection had with had
  subst had
  have hp0 := hadc _ _ hps.1
  have hp1 := hadc _ _ hps.2
  rw [add_lit', Nat.zero_add] at hp0 hp1
  have HBX := Lib.hid (Whole.new w 57 #[.slice A L.flatten.length c, .slice (some ⟨gB, 0, none⟩) L.length d])
  have HRA := Lib.hid (Rd.own hC1.buf)
  have HP := Lib.hid hpart
  have HK0 := Lib.hid K0
  have HCA := Lib.hid cA
  clear hC hC1 hx hpart hps hadc hadb K0 cB cA
  generalize hS : (L.take k).flatten.length = S at *
  generalize hm : x.length = m at *
  generalize hF : L.flatten.length = N at *
  generalize L.length = n at *
  have b0 := HBX.out.cell 0
  have b1 := HBX.out.cell 1
  have hSm : (S : Int) ≤ (S : Int) + (m : Int) := by omega
  have hSN : (S : Int) + (m : Int) ≤ (c : Int) := by omega
  have hcv : ∀ (W : World), Keeps (fun _ => False) (w.alloc (.cells #[.slice A N c, .slice (some ⟨gB, 0, none⟩) n d] 57)) W → (convert 25 9 (.slice (Option.map (fun x => x.add S) A) m (c - S))).run Try.prog W = .ok (.string ⟨x.toArray⟩) W := fun W K => by
    have h := (HRA.out.keeps K (fun _ _ h => h)).cut (k := S) (by omega)
    simp only [Nat.mul_one] at h
    have h2 := h.firstS (k := m) (by omega)
    rw [Lib.byteCells, ← List.map_drop, ← List.map_take, HP.out] at h2
    exact cv_row h2
  have hcv0 : ∀ (W : World) (Y : Option Addr) (z : Nat), m = 0 → (convert 25 9 (.slice Y 0 z)).run Try.prog W = .ok (.string ⟨x.toArray⟩) W := fun W Y z h0 => by
    subst h0
    obtain rfl : x = [] := List.length_eq_zero_iff.1 hm
    exact cv_row (l := []) Rd.none'
  have HCV := Lib.hid hcv
  have HCV0 := Lib.hid hcv0
  clear hcv hcv0
  have KP := (Keeps.refl (fun _ => False) (w.alloc (.cells #[.slice A N c, .slice (some ⟨gB, 0, none⟩) n d] 57))).alloc (.cells #[.int .i64 (S : Int), .int .i64 ((S : Int) + (m : Int))] 101)
  have hA := HCV.out _ KP
  have HKP := Lib.hid (HK0.out.trans KP (fun _ _ h => h))
  clear KP
  rcases Nat.lt_or_ge S c with hlt | hge
  · have hne : ¬ (S = c) := by omega
    have hneI : ¬ ((S : Int) = (c : Int)) := by omega
    go_enter Try.func31, Try.ntmps31
    go_wp2_with fail
    go_ret
    exact ⟨rfl, HKP.out⟩
  · have hm0 : m = 0 := by omega
    obtain rfl : c = S := by omega
    have hA0 := HCV0.out ((w.alloc (.cells #[.slice A N c, .slice (some ⟨gB, 0, none⟩) n d] 57)).alloc (.cells #[.int .i64 (c : Int), .int .i64 ((c : Int) + (m : Int))] 101)) A 0 hm0
    clear hm0 hA
    go_enter Try.func31, Try.ntmps31
    go_wp2_with fail
    go_ret
    exact ⟨rfl, HKP.out⟩
end Go.Proofs.Ytpcjifhklofofaa
