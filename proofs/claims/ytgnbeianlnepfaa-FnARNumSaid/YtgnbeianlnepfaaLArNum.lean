/- The walk of the law on arrays of numbers. Conditions: lengths that an argument can have. -/
import Derived.Test.YtgnbeianlnepfaaDl
namespace Go.Proofs.Ytgnbeianlnepfaa
open Go.RowKit Go.Lib
set_option linter.unusedVariables false
theorem u64s_ends : ∀ (ks : List Nat) (s : Nat), u64s (ends s ks) = offB ks s
  | [], _ => rfl
  | k :: r, s => by rw [ends, u64s, List.map_cons, List.flatten_cons, ← u64s, u64s_ends r (s + k), offB]
theorem narrB_spec (X : List (List Nat)) : narrB X = offB (X.map List.length) 0 ++ u32s X.flatten := by rw [narrB, u64s_ends]
theorem flat_bound {α : Type} (m : Nat) : ∀ (LL : List (List α)), (∀ L ∈ LL, L.length ≤ m) → LL.flatten.length ≤ LL.length * m
  | [], _ => by simp
  | L :: r, h => by
    have h1 := h L (List.mem_cons_self ..)
    have h2 := flat_bound m r fun X hX => h X (List.mem_cons_of_mem _ hX)
    rw [List.flatten_cons, List.length_append, List.length_cons, Nat.add_mul, Nat.one_mul]
    omega
theorem nums_small (LL : List (List Nat)) (h : ∀ X ∈ LL, ∀ x ∈ X, x < 4294967296) : 0 < (numsOf LL).length ∧ (numsOf LL).length ≤ 21 ∧ 0 < (numsOf LL).flatten.length ∧ (numsOf LL).flatten.length ≤ 252 ∧ ∀ x ∈ (numsOf LL).flatten, x < 4294967296 := by
  have h1 : (numsOf LL).length ≤ 21 := by
    rw [numsOf, List.length_append, List.length_map, List.length_take]
    simp
    omega
  have h2 : ∀ X ∈ numsOf LL, X.length ≤ 12 ∧ ∀ x ∈ X, x < 4294967296 := by
    intro X hX
    rcases List.mem_append.1 hX with h' | h'
    · obtain ⟨Y, hY, rfl⟩ := List.mem_map.1 h'
      exact ⟨by rw [List.length_take]; omega, fun x hx => h Y (List.mem_of_mem_take hY) x (List.mem_of_mem_take hx)⟩
    · rw [List.mem_singleton.1 h']
      refine ⟨by decide, ?_⟩
      intro x hx
      rcases List.mem_cons.1 hx with rfl | hx
      · decide
      · rw [List.mem_singleton.1 hx]; decide
  refine ⟨by rw [numsOf, List.length_append]; simp, h1, by rw [numsOf, List.flatten_append, List.length_append]; simp, Nat.le_trans (flat_bound 12 _ fun X hX => (h2 X hX).1) (by omega), fun x hx => ?_⟩
  obtain ⟨X, hX, hm⟩ := List.mem_flatten.1 hx
  exact (h2 X hX).2 x hm
theorem cv_str {w : World} {A : Option Addr} {n c : Nat} {l : List UInt8} (h : Rd w 1 A n (Lib.byteCells l)) : (convert 25 9 (.slice A n c)).run Try.prog w = .ok (.string ⟨l.toArray⟩) w :=
  run_str_rd Try.underlying25 Try.underlying5 Try.underlying9 h
theorem stTail (w : World) (A : Option Addr) (n c : Nat) (hc : n ≤ c) (hn : n ≤ 9223372036854775807) :
    Calls Try.prog 9 #[.slice A n c] w fun e w' => e = .returned (.slice A (min n 40) c) ∧ w' = w := by
  go_enter Try.func9, Try.ntmps9
  by_cases h : 40 < n
  · have h1 : min n 40 = 40 := by omega
    have h2 : ((40 : Int) < (n : Int)) = True := by simp; omega
    go_wp2_with fail
    go_ret
    rw [h1]
    exact ⟨rfl, rfl⟩
  · have h1 : min n 40 = n := by omega
    have h2 : ((40 : Int) < (n : Int)) = False := by simp; omega
    go_wp2_with fail
    go_ret
    rw [h1]
    exact ⟨rfl, rfl⟩
theorem own_capN {w : World} {b : Nat} {e : TypeId} {n c : Nat} {A : Option Addr} {xs : List Value} (h : w.ownsRow b e 1 (.slice A n c) n xs) (hn : 0 < n) : n ≤ c := by
  obtain ⟨g, cap, hv, h1, h2⟩ := h.form hn
  injection hv with e1 e2 e3
  rcases h.2 with ⟨h', h0⟩ | ⟨g', cap', cur, h', _, _, hnc, _⟩
  · omega
  · injection h' with h1 h2 h3
    omega
set_option maxRecDepth 100000 in
set_option maxHeartbeats 4000000 in
theorem arNumWalk (w : World) (A : Option Addr) (n c : Nat) (LL : List (List Nat)) (B : Option Addr) (nt ct : Nat) (t : List UInt8) (hl : LL.length = n) (hR : RowsIn w A LL) (hn : n ≤ 9223372036854775807) (hi : ∀ X ∈ LL, X.length ≤ 9223372036854775807) (hxs : ∀ X ∈ LL, ∀ x ∈ X, x < 4294967296)
    (ht : t.length = nt) (hRt : Rd w 1 B nt (Lib.byteCells t)) (htc : nt ≤ ct) (htn : nt ≤ 9223372036854775807) :
    Calls Try.prog 4 #[.slice A n c, .slice B nt ct] w fun e w' => e = .returned (.bool true) ∧ Below w.heap.size w w' := by
  have HF := Lib.hid (fits3 w A n c LL hl hR hn)
  have HL := Lib.hid (arNumsLaw w A n c LL hl hR hn hi)
  have HTL := Lib.hid (fun w' => stTail w' B nt ct htc htn)
  obtain ⟨b1, b2, b3, b4, b5⟩ := nums_small LL hxs
  have hRt40 : Rd w 1 B (min nt 40) (Lib.byteCells (t.take 40)) := by
    have h := hRt.first' (k := min nt 40) (by omega)
    rwa [show (Lib.byteCells t).take (min nt 40) = Lib.byteCells (t.take 40) by
      rw [Lib.byteCells, ← List.map_take, Lib.byteCells]
      congr 1
      rw [← ht, List.take_eq_take_iff]
      omega] at h
  have htl : (t.take 40).length = min nt 40 := by rw [List.length_take, ht]; omega
  have hm40 : min nt 40 ≤ 40 := by omega
  generalize t.take 40 = d at *
  generalize min nt 40 = m at *
  clear hl hR hi hxs ht hRt
  generalize numsOf LL = X at *
  have he := narrB_spec X
  have hol : (offB (X.map List.length) 0).length = 8 * X.length := by rw [offB_length, List.length_map]
  have hul : (u32s X.flatten).length = 4 * X.flatten.length := u32s_length _
  have HAR := Lib.hid (fun w A c hR => arNum w A X.length c X rfl hR (by omega) (by omega))
  have HLE := Lib.hid (fun w A c hR => arLensN w A X.length c X rfl hR (by omega) (by omega))
  have HFL := Lib.hid (fun w A c hR => arFlatN w A X.length c X rfl hR (by omega) (by omega))
  have HOF := Lib.hid (fun w A c hR => arOffsets w A X.length c (X.map List.length) (by rw [List.length_map]) hR (by omega) (by rw [← List.length_flatten]; omega))
  have HNB := Lib.hid (fun w A c hR => arNumsB w A X.flatten.length c X.flatten rfl hR (by omega) b5)
  have HRE := Lib.hid (fun (w : World) (D : Option Addr) (c len : Nat) (l : List UInt8) hL hlen hR hc hD => arReadNum w D c X X.length X.flatten.length len d l rfl b1 (by omega) rfl b3 (by omega) b5 hL hlen hR hc hD)
  have HSA := Lib.hid (fun w A B c d hA hB => arSameN w A B X.length c d X rfl hA hB (by omega) (by omega))
  rw [he] at HAR HRE
  rw [List.map_map] at HOF
  have hVL : (X.map fun L => Value.int .i64 (L.length : Int)) = X.map ((fun x : Nat => Value.int .i64 (x : Int)) ∘ List.length) := rfl
  rw [hVL] at HLE
  clear hVL he
  rw [← hol] at HOF
  rw [← hul] at HNB
  have hd1 : (offB (X.map List.length) 0).length ≤ 168 := by omega
  have hd2 : (u32s X.flatten).length ≤ 1008 := by omega
  have hd0 : 0 < (offB (X.map List.length) 0).length := by omega
  clear hol hul b1 b2 b3 b4 b5
  generalize X.map ((fun x : Nat => Value.int .i64 (x : Int)) ∘ List.length) = VL at *
  generalize offB (X.map List.length) 0 = d1 at *
  generalize u32s X.flatten = d2 at *
  generalize nv X.flatten = VF at *
  generalize X.flatten.length = f at *
  generalize hnx : X.length = nx at *
  generalize hdd : d1 ++ d2 = dd at *
  have hddl : dd.length = d1.length + d2.length := by rw [← hdd, List.length_append]
  generalize hnd : dd.length = nd at *
  generalize hn1 : d1.length = n1 at *
  generalize hn2 : d2.length = n2 at *
  have HNX := Lib.hid hnx
  have HDD := Lib.hid hdd
  have HND := Lib.hid hnd
  have HDL := Lib.hid hddl
  have HRT := Lib.hid hRt40
  have HTD := Lib.hid htl
  have HN2 := Lib.hid hn2
  have HN1 := Lib.hid hn1
  clear hnx hdd hnd hRt40 htl hn1 hn2 hddl
  go_enter Try.func4, Try.ntmps4
  go_wp2_with fail
  refine HF.out.mono ?_
  rintro e w1 ⟨⟨b, rfl⟩, rfl⟩
  cases b with
  | false =>
    go_wp2_with fail
    go_ret
    exact ⟨rfl, Below.refl _ _⟩
  | true =>
    by_cases hb : 2147483647 < nt
    · have hb1 : (2147483647 : Int) < (nt : Int) := by omega
      go_wp2_with fail
      go_ret
      exact ⟨rfl, Below.refl _ _⟩
    · have hb1 : ¬ (2147483647 : Int) < (nt : Int) := by omega
      go_wp2_with fail
      refine HL.out.mono ?_
      rintro e w2 ⟨A2, c2, rfl, hN2, K2⟩
      have HR2 := Lib.hid hN2
      have HK2 := Lib.hid K2
      clear hN2 K2
      go_wp2_with fail
      refine (HTL.out w2).mono ?_
      rintro e w2' ⟨rfl, rfl⟩
      go_wp2_with fail
      refine (HLE.out _ A2 c2 HR2.out).mono ?_
      rintro e w3 ⟨Al, cl, rfl, ol, K3, _⟩
      have HOL := Lib.hid (Rd.own ol)
      have HK3 := Lib.hid (HK2.out.trans K3 (fun _ _ h => h))
      have HR3 := Lib.hid (HR2.out.keeps K3)
      clear ol K3
      go_wp2_with fail
      refine (HOF.out _ Al cl HOL.out).mono ?_
      rintro e w4 ⟨Ao, co, rfl, oo, K4, _⟩
      have HOO := Lib.hid (Rd.own oo)
      have HK4 := Lib.hid (HK3.out.trans K4 (fun _ _ h => h))
      have HR4 := Lib.hid (HR3.out.keeps K4)
      clear oo K4
      go_wp2_with fail
      refine (HFL.out _ A2 c2 HR4.out).mono ?_
      rintro e w5 ⟨Af, cf, rfl, of', K5, _⟩
      have HOf := Lib.hid (Rd.own of')
      have HK5 := Lib.hid (HK4.out.trans K5 (fun _ _ h => h))
      have HR5 := Lib.hid (HR4.out.keeps K5)
      have HOO5 := Lib.hid (HOO.out.keeps K5 (fun _ _ h => h))
      clear of' K5
      go_wp2_with fail
      refine (HNB.out _ Af cf HOf.out).mono ?_
      rintro e w6 ⟨An, cn, rfl, on', K6, _⟩
      have HON := Lib.hid (Rd.own on')
      have HK6 := Lib.hid (HK5.out.trans K6 (fun _ _ h => h))
      have HR6 := Lib.hid (HR5.out.keeps K6)
      have HOO6 := Lib.hid (HOO5.out.keeps K6 (fun _ _ h => h))
      clear on' K6
      go_wp2_with fail
      have KB := (Keeps.refl (fun _ => False) w6).alloc (.cells #[.slice Ao n1 co, .slice An n2 cn] 25)
      refine (stJoinTwo _ w6.heap.size 25 Ao An n1 co n2 cn d1 d2 (Whole.new w6 _ _) (HOO6.out.keeps KB (fun _ _ h => h)) (HON.out.keeps KB (fun _ _ h => h)) (by omega)).mono ?_
      rintro e w7 ⟨Aj, cj, rfl, oj, K7, _⟩
      rw [HDD.out] at oj
      have K67 := KB.trans K7 (fun _ _ h => h)
      have HOJ := Lib.hid (Rd.own oj)
      have HK7 := Lib.hid (HK6.out.trans K67 (fun _ _ h => h))
      have HR7 := Lib.hid (HR6.out.keeps K67)
      clear oj KB K7 K67
      go_wp2_with fail
      refine (HAR.out w7 A2 c2 HR7.out).mono ?_
      rintro e w8 ⟨Ab, cb, hbe, ob8, K8⟩
      rw [HND.out] at hbe ob8
      subst hbe
      have HB8 := Lib.hid (Rd.own ob8)
      have HK8 := Lib.hid (HK7.out.trans K8 (fun _ _ h => h))
      have HR8 := Lib.hid (HR7.out.keeps K8)
      have HOJ8 := Lib.hid (HOJ.out.keeps K8 (fun _ _ h => h))
      clear ob8 K8
      go_wp2_with fail
      have KB := (Keeps.refl (fun _ => False) w8).alloc (.cells #[.slice Aj (n1 + n2) cj, .slice B m ct] 25)
      refine (stJoinTwo _ w8.heap.size 25 Aj B (n1 + n2) cj m ct dd d (Whole.new w8 _ _) (HOJ8.out.keeps KB (fun _ _ h => h)) (HRT.out.keeps (HK8.out.trans KB (fun _ _ h => h)) (fun _ _ h => h)) (by omega)).mono ?_
      rintro e w9 ⟨At, ca, rfl, oa, K9, _⟩
      have K89 := KB.trans K9 (fun _ _ h => h)
      have HOA := Lib.hid oa
      have HK9 := Lib.hid (HK8.out.trans K89 (fun _ _ h => h))
      have HR9 := Lib.hid (HR8.out.keeps K89)
      have HOJ9 := Lib.hid (HOJ8.out.keeps K89 (fun _ _ h => h))
      have HB9 := Lib.hid (HB8.out.keeps K89 (fun _ _ h => h))
      clear oa KB K9 K89
      go_wp2_with fail
      refine (HRE.out w9 At ca (n1 + n2 + m) (dd ++ d) rfl (by rw [List.length_append, HTD.out, HND.out, HDL.out]) (Rd.own HOA.out) (own_capN HOA.out (by omega)) (fun i hi => (HOA.out.lt i (by rw [ownBlock_slice]; exact hi)).2)).mono ?_
      rintro e w10 ⟨T, cT, VS, hte, oT, hRB, K10⟩
      rw [HNX.out] at hte oT
      rw [HTD.out] at hte
      subst hte
      have HT := Lib.hid (show NumsOf w10 T X from RB.rows hRB oT)
      have HK10 := Lib.hid (HK9.out.trans K10 (fun _ _ h => h))
      have HR10 := Lib.hid (HR9.out.keeps K10)
      have HOJ10 := HOJ9.out.keeps K10 (fun _ _ h => h)
      have HB10 := HB9.out.keeps K10 (fun _ _ h => h)
      clear oT hRB K10
      have hcj := cv_str (c := cj) HOJ10
      have hcb := cv_str (c := cb) HB10
      go_wp2_with fail
      refine (HSA.out w10 T A2 cT c2 HT.out HR10.out).mono ?_
      rintro e w11 hq
      obtain ⟨rfl, K11⟩ := hq.keeps
      have HK11 := Lib.hid (HK10.out.trans K11 (fun _ _ h => h))
      clear hq K11
      go_wp2_with fail
      go_ret
      exact ⟨rfl, HK11.out.below (Nat.le_refl _) (fun _ h => h.elim)⟩
end Go.Proofs.Ytgnbeianlnepfaa
