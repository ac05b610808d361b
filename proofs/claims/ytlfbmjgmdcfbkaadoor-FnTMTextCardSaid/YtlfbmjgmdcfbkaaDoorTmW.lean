/- Times of day that are read, and such that are refused: ParseTime32 and ParseTime64. Conditions: what the parts are read as; for a refusal: what the variable ErrSyntax holds is an interface's value. -/
import Derived.Test.YtlfbmjgmdcfbkaaDoorTmR
import Derived.LaidLaws
import Derived.LaidSub
import Derived.MakeChecks
import Derived.ChangeBears2
namespace Go.Proofs.YtlfbmjgmdcfbkaaDoor
open Go.RowKit Go.Lib
set_option linter.unusedVariables false
def SynV (w : World) : Prop := ∃ ev, w.cell? ⟨0, 0, none⟩ = some ev ∧ (ev = .nilIface ∨ ∃ te pe, ev = .iface te pe)
theorem SynV.keeps {w w' : World} (h : SynV w) (K : Keeps (fun _ => False) w w') : SynV w' := by
  obtain ⟨ev, h1, h2⟩ := h
  exact ⟨ev, (K.cell (p := ⟨0, 0, none⟩) (by
    rcases Nat.lt_or_ge 0 w.heap.size with h | h
    · exact h
    · have hn : w.heap[0]? = none := Array.getElem?_eq_none h
      unfold World.cell? at h1
      simp [hn] at h1) (fun h => h)).trans h1, h2⟩
theorem synV_of {w : World} {tp : TypeId} {p : Value} (h : w.var? Tryd.prog "strconv.ErrSyntax" = some #[.iface tp p]) : SynV w :=
  ⟨.iface tp p, by rw [var?_cell (show Tryd.prog.globalNamed "strconv.ErrSyntax" = some 0 by kernel_rfl) h]; rfl, .inr ⟨_, _, rfl⟩⟩
theorem synV_met {w : World} {d : DataW Unit} {nm : String} (hh : ([("strconv.ErrSyntax", DataW.iface nm d)].all fun x => x.2.handleName?.isNone) = true) (h : laidMetH Tryd.prog [("strconv.ErrSyntax", .iface nm d)] w) : SynV w := by
  rw [MakeChecks.laidMetH_plain _ _ _ hh] at h
  obtain ⟨ps, ⟨g, t, cs, fuel, p, q, hg, ht, hv, hd, _, _⟩, _, _⟩ := h
  obtain rfl := Option.some.inj ((show Tryd.prog.globalNamed "strconv.ErrSyntax" = some 0 by kernel_rfl).symm.trans hg)
  obtain rfl := Option.some.inj ((show (Tryd.prog.globals[0]?).map (·.type) = some 37 by kernel_rfl).symm.trans ht)
  obtain ⟨f', u, v, e, _, _⟩ := iface_of_trod Tryd.underlying37 hd
  obtain ⟨l⟩ := cs
  simp only at e
  subst e
  exact synV_of hv
def FailE (v0 : Value) (e : Ending) : Prop := ∃ N : Nat, e = .returned (.tuple #[v0, .iface 64 (.pointer (some ⟨N, 0, none⟩))])
def Fails (f : FuncId) (args : Array Value) (v0 : Value) : Prop := ∀ w, SynV w → Calls Tryd.prog f args w fun e w' => FailE v0 e ∧ Keeps (fun _ => False) w w'
theorem fails_atoi (l : List UInt8) (hl : l.length ≤ 100) (h : Lib.atoiAll l = .«syntax») : Fails 18 #[.string (sOf l)] (.int .i64 0) := fun w hw => by
  obtain ⟨ev, h1, h2⟩ := hw
  exact (Tryd.strconv_Atoi_syntax (sOf l) (by rw [sOf_size]; omega) (by simpa using h) ev w h1 h2).mono fun e w' ⟨N, he, _, _, hb⟩ => ⟨⟨N, he⟩, Keeps.of_below hb _⟩
theorem atoi_letter (x y : UInt8) (h : (97 ≤ x.toNat) ∨ (48 ≤ x.toNat ∧ x.toNat ≤ 57 ∧ 97 ≤ y.toNat)) : Lib.atoiAll [x, y] = .«syntax» := by
  have n1 : ¬ (x.toNat = 43 ∨ x.toNat = 45) := by omega
  unfold Lib.atoiAll
  simp only [if_neg n1]
  have : Lib.parseMag [x, y] = .«syntax» := by
    unfold Lib.parseMag
    simp only [List.cons_ne_nil, if_false]
    rw [Lib.parseUint10]
    rcases h with h | ⟨h1, h2, h3⟩
    · rw [if_neg (by omega)]
    · rw [if_pos ⟨h1, h2⟩, if_neg (by omega), if_neg (by omega), Lib.parseUint10, if_neg (by omega)]
  rw [this]
set_option maxRecDepth 10000 in
set_option maxHeartbeats 1600000 in
theorem parse32V (w : World) (s t u p1 p2 p3 : ByteArray) (h m c n : Int)
    (hsplit : ∀ w, Calls Tryd.prog 16 #[.string s, .string ⟨#[58]⟩] w fun e w' => ∃ A c, e = .returned (.slice A 3 c) ∧ w'.ownsRow w.heap.size 9 1 (.slice A 3 c) 3 [.string p1, .string p2, .string p3] ∧ Keeps (fun _ => False) w w')
    (h1 : Ret 18 #[.string p1] (.tuple #[.int .i64 h, .nilIface]))
    (h2 : Ret 18 #[.string p2] (.tuple #[.int .i64 m, .nilIface]))
    (h3 : Ret 18 #[.string p3] (.tuple #[.int .i64 c, .nilIface]))
    (q1 : IntKind.i64.wrap (h * 3600) = h * 3600) (q2 : IntKind.i64.wrap (m * 60) = m * 60) (q3 : IntKind.i64.wrap (h * 3600 + m * 60) = h * 3600 + m * 60) (q4 : IntKind.i64.wrap (h * 3600 + m * 60 + c) = n) (q5 : IntKind.i32.wrap n = n) :
    Calls Tryd.prog 14 #[.string s] w fun e w' => e = .returned (.tuple #[.int .i32 n, .nilIface]) ∧ Keeps (fun _ => False) w w' := by
  have HSplit := Lib.hid hsplit
  have H1 := Lib.hid h1
  have H2 := Lib.hid h2
  have H3 := Lib.hid h3
  clear hsplit h1 h2 h3
  go_enter Tryd.func14, Tryd.ntmps14
  go_wp2_with fail
  refine (HSplit.out _).mono ?_
  rintro e w2 ⟨A, cc, rfl, o2, K2⟩
  obtain ⟨g, rfl, hg, c0, c1, c2⟩ := three_cells o2
  have HK2 := Lib.hid K2
  clear o2 K2
  go_wp2_with fail
  refine (H1.out _).mono ?_
  rintro e w3 ⟨rfl, K3⟩
  have c1 := cell_kept c1 hg K3
  have c2 := cell_kept c2 hg K3
  have hg := Nat.lt_of_lt_of_le hg K3.size
  have HK3 := Lib.hid (HK2.out.trans K3 (fun _ _ h => h))
  clear K3 c0
  go_wp2_with fail
  refine (H2.out _).mono ?_
  rintro e w4 ⟨rfl, K4⟩
  have c2 := cell_kept c2 hg K4
  have hg := Nat.lt_of_lt_of_le hg K4.size
  have HK4 := Lib.hid (HK3.out.trans K4 (fun _ _ h => h))
  clear K4 c1
  go_wp2_with fail
  refine (H3.out _).mono ?_
  rintro e w5 ⟨rfl, K5⟩
  have hg := Nat.lt_of_lt_of_le hg K5.size
  have HK5 := Lib.hid (HK4.out.trans K5 (fun _ _ h => h))
  clear K5 c2
  go_wp2_with fail
  go_ret2
  exact ⟨rfl, HK5.out⟩
set_option maxRecDepth 10000 in
set_option maxHeartbeats 1600000 in
theorem parse32E1 (w : World) (s t u p1 p2 p3 : ByteArray) (zz : Int)
    (hsplit : ∀ w, Calls Tryd.prog 16 #[.string s, .string ⟨#[58]⟩] w fun e w' => ∃ A c, e = .returned (.slice A 3 c) ∧ w'.ownsRow w.heap.size 9 1 (.slice A 3 c) 3 [.string p1, .string p2, .string p3] ∧ Keeps (fun _ => False) w w')
    (h1 : Fails 18 #[.string p1] (.int .i64 0)) (hsv : SynV w) :
    Calls Tryd.prog 14 #[.string s] w fun e w' => FailE (.int .i32 0) e ∧ Keeps (fun _ => False) w w' := by
  have HSplit := Lib.hid hsplit
  have H1 := Lib.hid h1
  have HSV := Lib.hid hsv
  clear hsplit h1 hsv
  go_enter Tryd.func14, Tryd.ntmps14
  go_wp2_with fail
  refine (HSplit.out _).mono ?_
  rintro e w2 ⟨A, cc, rfl, o2, K2⟩
  obtain ⟨g, rfl, hg, c0, c1, c2⟩ := three_cells o2
  have HK2 := Lib.hid K2
  clear o2 K2
  go_wp2_with fail
  refine (H1.out _ (HSV.out.keeps HK2.out)).mono ?_
  rintro e w3 ⟨⟨N, rfl⟩, K3⟩
  have HK3 := Lib.hid (HK2.out.trans K3 (fun _ _ h => h))
  clear K3
  go_wp2_with fail
  go_ret2
  exact ⟨⟨N, rfl⟩, HK3.out⟩
set_option maxRecDepth 10000 in
set_option maxHeartbeats 1600000 in
theorem parse32E2 (w : World) (s t u p1 p2 p3 : ByteArray) (h : Int)
    (hsplit : ∀ w, Calls Tryd.prog 16 #[.string s, .string ⟨#[58]⟩] w fun e w' => ∃ A c, e = .returned (.slice A 3 c) ∧ w'.ownsRow w.heap.size 9 1 (.slice A 3 c) 3 [.string p1, .string p2, .string p3] ∧ Keeps (fun _ => False) w w')
    (h1 : Ret 18 #[.string p1] (.tuple #[.int .i64 h, .nilIface]))
    (h2 : Fails 18 #[.string p2] (.int .i64 0)) (hsv : SynV w) :
    Calls Tryd.prog 14 #[.string s] w fun e w' => FailE (.int .i32 0) e ∧ Keeps (fun _ => False) w w' := by
  have HSplit := Lib.hid hsplit
  have H1 := Lib.hid h1
  have H2 := Lib.hid h2
  have HSV := Lib.hid hsv
  clear hsplit h1 h2 hsv
  go_enter Tryd.func14, Tryd.ntmps14
  go_wp2_with fail
  refine (HSplit.out _).mono ?_
  rintro e w2 ⟨A, cc, rfl, o2, K2⟩
  obtain ⟨g, rfl, hg, c0, c1, c2⟩ := three_cells o2
  have HK2 := Lib.hid K2
  clear o2 K2
  go_wp2_with fail
  refine (H1.out _).mono ?_
  rintro e w3 ⟨rfl, K3⟩
  have c1 := cell_kept c1 hg K3
  have c2 := cell_kept c2 hg K3
  have hg := Nat.lt_of_lt_of_le hg K3.size
  have HK3 := Lib.hid (HK2.out.trans K3 (fun _ _ h => h))
  clear K3 c0
  go_wp2_with fail
  refine (H2.out _ (HSV.out.keeps HK3.out)).mono ?_
  rintro e w4 ⟨⟨N, rfl⟩, K4⟩
  have HK4 := Lib.hid (HK3.out.trans K4 (fun _ _ h => h))
  clear K4
  go_wp2_with fail
  go_ret2
  exact ⟨⟨N, rfl⟩, HK4.out⟩
set_option maxRecDepth 10000 in
set_option maxHeartbeats 1600000 in
theorem parse32E3 (w : World) (s t u p1 p2 p3 : ByteArray) (h m : Int)
    (hsplit : ∀ w, Calls Tryd.prog 16 #[.string s, .string ⟨#[58]⟩] w fun e w' => ∃ A c, e = .returned (.slice A 3 c) ∧ w'.ownsRow w.heap.size 9 1 (.slice A 3 c) 3 [.string p1, .string p2, .string p3] ∧ Keeps (fun _ => False) w w')
    (h1 : Ret 18 #[.string p1] (.tuple #[.int .i64 h, .nilIface]))
    (h2 : Ret 18 #[.string p2] (.tuple #[.int .i64 m, .nilIface]))
    (h3 : Fails 18 #[.string p3] (.int .i64 0)) (hsv : SynV w) :
    Calls Tryd.prog 14 #[.string s] w fun e w' => FailE (.int .i32 0) e ∧ Keeps (fun _ => False) w w' := by
  have HSplit := Lib.hid hsplit
  have H1 := Lib.hid h1
  have H2 := Lib.hid h2
  have H3 := Lib.hid h3
  have HSV := Lib.hid hsv
  clear hsplit h1 h2 h3 hsv
  go_enter Tryd.func14, Tryd.ntmps14
  go_wp2_with fail
  refine (HSplit.out _).mono ?_
  rintro e w2 ⟨A, cc, rfl, o2, K2⟩
  obtain ⟨g, rfl, hg, c0, c1, c2⟩ := three_cells o2
  have HK2 := Lib.hid K2
  clear o2 K2
  go_wp2_with fail
  refine (H1.out _).mono ?_
  rintro e w3 ⟨rfl, K3⟩
  have c1 := cell_kept c1 hg K3
  have c2 := cell_kept c2 hg K3
  have hg := Nat.lt_of_lt_of_le hg K3.size
  have HK3 := Lib.hid (HK2.out.trans K3 (fun _ _ h => h))
  clear K3 c0
  go_wp2_with fail
  refine (H2.out _).mono ?_
  rintro e w4 ⟨rfl, K4⟩
  have c2 := cell_kept c2 hg K4
  have hg := Nat.lt_of_lt_of_le hg K4.size
  have HK4 := Lib.hid (HK3.out.trans K4 (fun _ _ h => h))
  clear K4 c1
  go_wp2_with fail
  refine (H3.out _ (HSV.out.keeps HK4.out)).mono ?_
  rintro e w5 ⟨⟨N, rfl⟩, K5⟩
  have HK5 := Lib.hid (HK4.out.trans K5 (fun _ _ h => h))
  clear K5
  go_wp2_with fail
  go_ret2
  exact ⟨⟨N, rfl⟩, HK5.out⟩
set_option maxRecDepth 10000 in
set_option maxHeartbeats 1600000 in
theorem parse64E1 (w : World) (s t u p1 p2 p3 : ByteArray) (zz : Int)
    (hcut : Ret 15 #[.string s, .string ⟨#[46]⟩] (.tuple #[.string t, .string u, .bool true]))
    (hsplit : ∀ w, Calls Tryd.prog 16 #[.string t, .string ⟨#[58]⟩] w fun e w' => ∃ A c, e = .returned (.slice A 3 c) ∧ w'.ownsRow w.heap.size 9 1 (.slice A 3 c) 3 [.string p1, .string p2, .string p3] ∧ Keeps (fun _ => False) w w')
    (h1 : Fails 18 #[.string p1] (.int .i64 0)) (hsv : SynV w) :
    Calls Tryd.prog 11 #[.string s] w fun e w' => FailE (.int .i64 0) e ∧ Keeps (fun _ => False) w w' := by
  have HSplit := Lib.hid hsplit
  have HCut := Lib.hid hcut
  have H1 := Lib.hid h1
  have HSV := Lib.hid hsv
  clear hsplit hcut h1 hsv
  go_enter Tryd.func11, Tryd.ntmps11
  go_wp2_with fail
  refine (HCut.out _).mono ?_
  rintro e w0 ⟨rfl, K0⟩
  go_wp2_with fail
  refine (HSplit.out _).mono ?_
  rintro e w2 ⟨A, cc, rfl, o2, K2⟩
  obtain ⟨g, rfl, hg, c0, c1, c2⟩ := three_cells o2
  have K2 := K0.trans K2 (fun _ _ h => h)
  have HK2 := Lib.hid K2
  clear o2 K2 K0
  go_wp2_with fail
  refine (H1.out _ (HSV.out.keeps HK2.out)).mono ?_
  rintro e w3 ⟨⟨N, rfl⟩, K3⟩
  have HK3 := Lib.hid (HK2.out.trans K3 (fun _ _ h => h))
  clear K3
  go_wp2_with fail
  go_ret2
  exact ⟨⟨N, rfl⟩, HK3.out⟩
set_option maxRecDepth 10000 in
set_option maxHeartbeats 1600000 in
theorem parse64E2 (w : World) (s t u p1 p2 p3 : ByteArray) (h : Int)
    (hcut : Ret 15 #[.string s, .string ⟨#[46]⟩] (.tuple #[.string t, .string u, .bool true]))
    (hsplit : ∀ w, Calls Tryd.prog 16 #[.string t, .string ⟨#[58]⟩] w fun e w' => ∃ A c, e = .returned (.slice A 3 c) ∧ w'.ownsRow w.heap.size 9 1 (.slice A 3 c) 3 [.string p1, .string p2, .string p3] ∧ Keeps (fun _ => False) w w')
    (h1 : Ret 18 #[.string p1] (.tuple #[.int .i64 h, .nilIface]))
    (h2 : Fails 18 #[.string p2] (.int .i64 0)) (hsv : SynV w) :
    Calls Tryd.prog 11 #[.string s] w fun e w' => FailE (.int .i64 0) e ∧ Keeps (fun _ => False) w w' := by
  have HSplit := Lib.hid hsplit
  have HCut := Lib.hid hcut
  have H1 := Lib.hid h1
  have H2 := Lib.hid h2
  have HSV := Lib.hid hsv
  clear hsplit hcut h1 h2 hsv
  go_enter Tryd.func11, Tryd.ntmps11
  go_wp2_with fail
  refine (HCut.out _).mono ?_
  rintro e w0 ⟨rfl, K0⟩
  go_wp2_with fail
  refine (HSplit.out _).mono ?_
  rintro e w2 ⟨A, cc, rfl, o2, K2⟩
  obtain ⟨g, rfl, hg, c0, c1, c2⟩ := three_cells o2
  have K2 := K0.trans K2 (fun _ _ h => h)
  have HK2 := Lib.hid K2
  clear o2 K2 K0
  go_wp2_with fail
  refine (H1.out _).mono ?_
  rintro e w3 ⟨rfl, K3⟩
  have c1 := cell_kept c1 hg K3
  have c2 := cell_kept c2 hg K3
  have hg := Nat.lt_of_lt_of_le hg K3.size
  have HK3 := Lib.hid (HK2.out.trans K3 (fun _ _ h => h))
  clear K3 c0
  go_wp2_with fail
  refine (H2.out _ (HSV.out.keeps HK3.out)).mono ?_
  rintro e w4 ⟨⟨N, rfl⟩, K4⟩
  have HK4 := Lib.hid (HK3.out.trans K4 (fun _ _ h => h))
  clear K4
  go_wp2_with fail
  go_ret2
  exact ⟨⟨N, rfl⟩, HK4.out⟩
set_option maxRecDepth 10000 in
set_option maxHeartbeats 1600000 in
theorem parse64E3 (w : World) (s t u p1 p2 p3 : ByteArray) (h m : Int)
    (hcut : Ret 15 #[.string s, .string ⟨#[46]⟩] (.tuple #[.string t, .string u, .bool true]))
    (hsplit : ∀ w, Calls Tryd.prog 16 #[.string t, .string ⟨#[58]⟩] w fun e w' => ∃ A c, e = .returned (.slice A 3 c) ∧ w'.ownsRow w.heap.size 9 1 (.slice A 3 c) 3 [.string p1, .string p2, .string p3] ∧ Keeps (fun _ => False) w w')
    (h1 : Ret 18 #[.string p1] (.tuple #[.int .i64 h, .nilIface]))
    (h2 : Ret 18 #[.string p2] (.tuple #[.int .i64 m, .nilIface]))
    (h3 : Fails 18 #[.string p3] (.int .i64 0)) (hsv : SynV w) :
    Calls Tryd.prog 11 #[.string s] w fun e w' => FailE (.int .i64 0) e ∧ Keeps (fun _ => False) w w' := by
  have HSplit := Lib.hid hsplit
  have HCut := Lib.hid hcut
  have H1 := Lib.hid h1
  have H2 := Lib.hid h2
  have H3 := Lib.hid h3
  have HSV := Lib.hid hsv
  clear hsplit hcut h1 h2 h3 hsv
  go_enter Tryd.func11, Tryd.ntmps11
  go_wp2_with fail
  refine (HCut.out _).mono ?_
  rintro e w0 ⟨rfl, K0⟩
  go_wp2_with fail
  refine (HSplit.out _).mono ?_
  rintro e w2 ⟨A, cc, rfl, o2, K2⟩
  obtain ⟨g, rfl, hg, c0, c1, c2⟩ := three_cells o2
  have K2 := K0.trans K2 (fun _ _ h => h)
  have HK2 := Lib.hid K2
  clear o2 K2 K0
  go_wp2_with fail
  refine (H1.out _).mono ?_
  rintro e w3 ⟨rfl, K3⟩
  have c1 := cell_kept c1 hg K3
  have c2 := cell_kept c2 hg K3
  have hg := Nat.lt_of_lt_of_le hg K3.size
  have HK3 := Lib.hid (HK2.out.trans K3 (fun _ _ h => h))
  clear K3 c0
  go_wp2_with fail
  refine (H2.out _).mono ?_
  rintro e w4 ⟨rfl, K4⟩
  have c2 := cell_kept c2 hg K4
  have hg := Nat.lt_of_lt_of_le hg K4.size
  have HK4 := Lib.hid (HK3.out.trans K4 (fun _ _ h => h))
  clear K4 c1
  go_wp2_with fail
  refine (H3.out _ (HSV.out.keeps HK4.out)).mono ?_
  rintro e w5 ⟨⟨N, rfl⟩, K5⟩
  have HK5 := Lib.hid (HK4.out.trans K5 (fun _ _ h => h))
  clear K5
  go_wp2_with fail
  go_ret2
  exact ⟨⟨N, rfl⟩, HK5.out⟩
end Go.Proofs.YtlfbmjgmdcfbkaaDoor
