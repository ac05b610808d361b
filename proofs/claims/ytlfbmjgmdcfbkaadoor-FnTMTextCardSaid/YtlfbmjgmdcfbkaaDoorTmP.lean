/- Times of day, parsed. Conditions: what the parts are read as. -/
import Derived.Test.YtlfbmjgmdcfbkaaDoorTmS
import Derived.LoopTactic
import Derived.Laws.OwnMore
namespace Go.Proofs.YtlfbmjgmdcfbkaaDoor
open Go.RowKit Go.Lib
set_option linter.unusedVariables false
theorem three_cells {w : World} {b : Nat} {A : Option Addr} {c : Nat} {x y z : Value} (h : w.ownsRow b 9 1 (.slice A 3 c) 3 [x, y, z]) : ∃ g, A = some ⟨g, 0, none⟩ ∧ g < w.heap.size ∧ w.cell? ⟨g, 0, none⟩ = some x ∧ w.cell? ⟨g, 1, none⟩ = some y ∧ w.cell? ⟨g, 2, none⟩ = some z := by
  obtain ⟨g, c0, hA, _, hlt⟩ := h.form (by omega)
  injection hA with hA _ hc
  subst hA
  exact ⟨g, rfl, hlt, by simpa using h.cellAt 0 (by omega), by simpa using h.cellAt 1 (by omega), by simpa using h.cellAt 2 (by omega)⟩
theorem cell_kept {w w' : World} {g o : Nat} {v : Value} (h : w.cell? ⟨g, o, none⟩ = some v) (hg : g < w.heap.size) (K : Keeps (fun _ => False) w w') : w'.cell? ⟨g, o, none⟩ = some v := (K.cell (p := ⟨g, o, none⟩) hg (fun h => h)).trans h
def strLen : Value → Nat
  | .string s => s.size
  | _ => 0
def Ret (f : FuncId) (args : Array Value) (v : Value) : Prop := ∀ w, Calls Tryd.prog f args w fun e w' => e = .returned v ∧ Keeps (fun _ => False) w w'
set_option maxRecDepth 10000 in
set_option maxHeartbeats 1600000 in
theorem parse64V (w : World) (s t p1 p2 p3 S0 : ByteArray) (D : List UInt8) (k : Nat) (hk : D.length = k) (hk1 : 0 < k) (hk9 : k ≤ 9) (h m c f n N9 R : Int)
    (hcut : Ret 15 #[.string s, .string ⟨#[46]⟩] (.tuple #[.string t, .string (sOf D), .bool true]))
    (hsplit : ∀ w, Calls Tryd.prog 16 #[.string t, .string ⟨#[58]⟩] w fun e w' => ∃ A c, e = .returned (.slice A 3 c) ∧ w'.ownsRow w.heap.size 9 1 (.slice A 3 c) 3 [.string p1, .string p2, .string p3] ∧ Keeps (fun _ => False) w w')
    (ha : Ret 18 #[.string p1] (.tuple #[.int .i64 h, .nilIface])) (hb : Ret 18 #[.string p2] (.tuple #[.int .i64 m, .nilIface])) (hc : Ret 18 #[.string p3] (.tuple #[.int .i64 c, .nilIface]))
    (hp : Ret 19 #[.string (sOf (D ++ List.replicate (9 - k) 48)), .int .i64 10, .int .i64 64] (.tuple #[.int .i64 f, .nilIface]))
    (q1 : IntKind.i64.wrap (h * 3600) = h * 3600) (q2 : IntKind.i64.wrap (m * 60) = m * 60) (q3 : IntKind.i64.wrap (h * 3600 + m * 60) = h * 3600 + m * 60) (q4 : IntKind.i64.wrap (h * 3600 + m * 60 + c) = n) (q5 : IntKind.i64.wrap (n * 1000000000) = N9) (q6 : IntKind.i64.wrap (N9 + f) = R) :
    Calls Tryd.prog 11 #[.string s] w fun e w' => e = .returned (.tuple #[.int .i64 R, .nilIface]) ∧ Keeps (fun _ => False) w w' := by
  have HCut := Lib.hid hcut
  have HSplit := Lib.hid hsplit
  have HA := Lib.hid ha
  have HB := Lib.hid hb
  have HC := Lib.hid hc
  have HP := Lib.hid hp
  have HK := Lib.hid hk
  have hne : (sOf D).toList.isEmpty = false := by
    rw [ByteArray.toList_eq]
    cases D with
    | nil => exact absurd hk (by simp; omega)
    | cons a l => rfl
  clear hcut hsplit ha hb hc hp hk
  generalize hS : sOf D = S0 at *
  have HS := Lib.hid hS
  clear hS
  go_enter Tryd.func11, Tryd.ntmps11
  go_wp2_with fail
  refine (HCut.out _).mono ?_
  rintro e w1 ⟨rfl, K1⟩
  go_wp2_with fail
  refine (HSplit.out _).mono ?_
  rintro e w2 ⟨A, cc, rfl, o2, K2⟩
  obtain ⟨g, rfl, hg, c0, c1, c2⟩ := three_cells o2
  have K12 := K1.trans K2 (fun _ _ h => h)
  clear o2 K1 K2
  go_wp2_with fail
  refine (HA.out _).mono ?_
  rintro e w3 ⟨rfl, K3⟩
  have c1 := cell_kept c1 hg K3
  have c2 := cell_kept c2 hg K3
  have hg := Nat.lt_of_lt_of_le hg K3.size
  have K13 := K12.trans K3 (fun _ _ h => h)
  clear c0 K12 K3
  go_wp2_with fail
  refine (HB.out _).mono ?_
  rintro e w4 ⟨rfl, K4⟩
  have c2 := cell_kept c2 hg K4
  have K14 := K13.trans K4 (fun _ _ h => h)
  clear c1 K13 K4
  go_wp2_with fail
  refine (HC.out _).mono ?_
  rintro e w5 ⟨rfl, K5⟩
  have HK5 := Lib.hid (K14.trans K5 (fun _ _ h => h))
  clear c2 K14 K5 hg
  go_wp2_with fail
  go_loop [5] (fun v => ∃ j : Nat, k + j ≤ 9 ∧ v = .string (sOf (D ++ List.replicate j 48))) (fun v => 9 - strLen v)
  case atStart => exact ⟨0, by omega, by rw [← HS.out]; simp⟩
  case round =>
    obtain ⟨j, hj, rfl⟩ := hrel
    have hsz : (sOf (D ++ List.replicate j 48)).size = k + j := by rw [sOf_size, List.length_append, List.length_replicate, HK.out]
    by_cases hlt : k + j < 9
    · have hap : sOf (D ++ List.replicate j 48) ++ (⟨#[48]⟩ : ByteArray) = sOf (D ++ List.replicate (j + 1) 48) := by
        rw [List.replicate_succ', ← List.append_assoc]
        exact sOf_app _ [48]
      have hsz2 : (sOf (D ++ List.replicate (j + 1) 48)).size = k + (j + 1) := by rw [sOf_size, List.length_append, List.length_replicate, HK.out]
      have HR := Lib.hid (show ∃ i : Nat, k + i ≤ 9 ∧ Value.string (sOf (D ++ List.replicate (j + 1) 48)) = .string (sOf (D ++ List.replicate i 48)) from ⟨j + 1, by omega, rfl⟩)
      generalize sOf (D ++ List.replicate (j + 1) 48) = s2 at *
      generalize sOf (D ++ List.replicate j 48) = s1 at *
      have hz : (s1.size : Int) < 9 := by omega
      go_wp2_with fail
      go_round
      case rel => exact HR.out
      case measure => (simp only [strLen]; omega)
    · have hjk : j = 9 - k := by omega
      subst hjk
      generalize sOf (D ++ List.replicate (9 - k) 48) = s1 at *
      have hz : s1.size = 9 := by omega
      clear hsz hlt hj
      go_wp2_with fail
      refine (HP.out _).mono ?_
      rintro e w6 ⟨rfl, K6⟩
      go_wp2_with fail
      go_ret2
      exact ⟨rfl, HK5.out.trans K6 (fun _ _ h => h)⟩
end Go.Proofs.YtlfbmjgmdcfbkaaDoor
