/- The walk of the law on arrays of strings. Conditions: lengths that an argument can have. -/
import Derived.Test.YtkgjchfbbpabpaaAm
import Derived.Deep.RegionWith
namespace Go.Proofs.Ytkgjchfbbpabpaa
open Go.RowKit Go.Lib
set_option linter.unusedVariables false
theorem u64s_ends : ∀ (ks : List Nat) (s : Nat), u64s (ends s ks) = offB ks s
  | [], _ => rfl
  | k :: r, s => by rw [ends, u64s, List.map_cons, List.flatten_cons, ← u64s, u64s_ends r (s + k), offB]
theorem arrB_spec (LL : List (List ByteArray)) : arrB LL = offB (LL.map List.length) 0 ++ (LL.flatten.map strB).flatten := by rw [arrB, u64s_ends, enc_str]
theorem flat_bound {α : Type} (m : Nat) : ∀ (LL : List (List α)), (∀ L ∈ LL, L.length ≤ m) → LL.flatten.length ≤ LL.length * m
  | [], _ => by simp
  | L :: r, h => by
    have h1 := h L (List.mem_cons_self ..)
    have h2 := flat_bound m r fun X hX => h X (List.mem_cons_of_mem _ hX)
    rw [List.flatten_cons, List.length_append, List.length_cons, Nat.add_mul, Nat.one_mul]
    omega
theorem strB_bound {x : ByteArray} (h : x.size ≤ 1000) : (strB x).length ≤ x.size + 10 := by
  have := Lib.uvarint_length64 (x := x.size) (by omega)
  rw [strB, List.length_append, sl_length]
  omega
theorem lists_len (LL : List (List ByteArray)) : (listsOf LL).length ≤ 21 := by
  rw [listsOf, List.length_append, List.length_map, List.length_take]
  simp
  omega
theorem lists_in (LL : List (List ByteArray)) : ∀ L ∈ listsOf LL, L.length ≤ 12 ∧ ∀ x ∈ L, x.size ≤ 60 := by
  intro L hL
  rcases List.mem_append.1 hL with h | h
  · obtain ⟨X, _, rfl⟩ := List.mem_map.1 h
    refine ⟨by rw [wordsOf_length]; omega, fun x hx => ?_⟩
    obtain ⟨y, _, rfl⟩ := List.mem_map.1 hx
    exact cut60_size y
  · rw [List.mem_singleton.1 h]
    refine ⟨by decide, ?_⟩
    intro x hx
    rcases List.mem_cons.1 hx with rfl | hx
    · decide
    rcases List.mem_cons.1 hx with rfl | hx
    · decide
    rw [List.mem_singleton.1 hx]
    decide
/-- All bounds of the rows that are looked at. -/
theorem lists_small (LL : List (List ByteArray)) : (listsOf LL).flatten.length ≤ 252 ∧ (∀ x ∈ (listsOf LL).flatten, x.size ≤ 60) ∧ ((listsOf LL).flatten.map sl).flatten.length ≤ 15120 ∧ ((listsOf LL).flatten.map strB).flatten.length ≤ 17640 ∧ ((listsOf LL).map List.length).sum ≤ 252 := by
  have h1 := lists_len LL
  have h2 := lists_in LL
  have hx : ∀ x ∈ (listsOf LL).flatten, x.size ≤ 60 := fun x hx => by
    obtain ⟨L, hL, hm⟩ := List.mem_flatten.1 hx
    exact (h2 L hL).2 x hm
  have hf : (listsOf LL).flatten.length ≤ 252 := Nat.le_trans (flat_bound 12 _ fun L hL => (h2 L hL).1) (by omega)
  refine ⟨hf, hx, ?_, ?_, by rw [← List.length_flatten]; exact hf⟩
  · have h := flat_bound 60 ((listsOf LL).flatten.map sl) fun l hl => by
      obtain ⟨x, hm, rfl⟩ := List.mem_map.1 hl
      rw [sl_length]; exact hx x hm
    rw [List.length_map] at h
    omega
  · have h := flat_bound 70 ((listsOf LL).flatten.map strB) fun l hl => by
      obtain ⟨x, hm, rfl⟩ := List.mem_map.1 hl
      have h3 := hx x hm
      have := strB_bound (x := x) (by omega)
      omega
    rw [List.length_map] at h
    omega
theorem cv_str {w : World} {A : Option Addr} {n c : Nat} {l : List UInt8} (h : Rd w 1 A n (Lib.byteCells l)) : (convert 25 9 (.slice A n c)).run Try.prog w = .ok (.string ⟨l.toArray⟩) w :=
  run_str_rd Try.underlying25 Try.underlying5 Try.underlying9 h

set_option maxRecDepth 100000 in
set_option maxHeartbeats 2000000 in
theorem arStrWalk (w : World) (A : Option Addr) (n c : Nat) (LL : List (List ByteArray)) (hl : LL.length = n) (hR : RowsOf w A LL) (hi : ∀ X ∈ LL, X.length ≤ 9223372036854775807) (hn : n ≤ 9223372036854775807) :
    Calls Try.prog 3 #[.slice A n c] w fun e w' => e = .returned (.bool true) ∧ Below w.heap.size w w' := by
  have HF := Lib.hid (fits1 w A n c LL hl hR hi hn)
  have HL := Lib.hid (arLists w A n c LL hl hR hn hi)
  clear hl hR hi hn
  obtain ⟨b1, b2, b3, b4, b5⟩ := lists_small LL
  have b6 := lists_len LL
  have b7 := lists_in LL
  have he := arrB_spec (listsOf LL)
  generalize listsOf LL = X at *
  have hol : (offB (X.map List.length) 0).length = 8 * X.length := by rw [offB_length, List.length_map]
  have HAR := Lib.hid (fun w A c hR => arStr w A X.length c X rfl hR (fun L hL x hx => by have := (b7 L hL).2 x hx; omega) (by omega) (by omega) (by omega) (by rw [he, List.length_append, hol]; omega))
  have HLE := Lib.hid (fun w A c hR => arLens w A X.length c X rfl hR (by omega) (by omega))
  have HFL := Lib.hid (fun w A c hR => arFlat w A X.length c X rfl hR (by omega) (by omega))
  have HOF := Lib.hid (fun w A c hR => arOffsets w A X.length c (X.map List.length) (by rw [List.length_map]) hR (by omega) (by omega))
  have HST := Lib.hid (fun w A c hR => stStrings w A X.flatten.length c X.flatten rfl hR (by omega) (fun x hx => by have := b2 x hx; omega) (by omega))
  rw [he] at HAR
  rw [List.map_map] at HOF
  have hVL : (X.map fun L => Value.int .i64 (L.length : Int)) = X.map ((fun x : Nat => Value.int .i64 (x : Int)) ∘ List.length) := rfl
  rw [hVL] at HLE
  have hd1 : (offB (X.map List.length) 0).length ≤ 168 := by rw [hol]; omega
  have hd12 : (offB (X.map List.length) 0 ++ (X.flatten.map strB).flatten).length = (offB (X.map List.length) 0).length + (X.flatten.map strB).flatten.length := List.length_append
  rw [← hol] at HOF
  clear b1 b2 b3 b5 b6 b7 hol he hVL
  generalize X.map ((fun x : Nat => Value.int .i64 (x : Int)) ∘ List.length) = VL at *
  generalize offB (X.map List.length) 0 = d1 at *
  generalize X.flatten.map Value.string = VF at *
  generalize (X.flatten.map strB).flatten = d2 at *
  generalize X.flatten.length = m at *
  generalize hdd : d1 ++ d2 = dd at *
  generalize hnd : dd.length = nd at *
  generalize X.length = nx at *
  generalize hn1 : d1.length = n1 at *
  generalize hn2 : d2.length = n2 at *
  have HDD := Lib.hid hdd
  have HND := Lib.hid hnd
  clear hdd hd12 hnd
  go_enter Try.func3, Try.ntmps3
  go_wp2_with fail
  refine HF.out.mono ?_
  rintro e w1 ⟨⟨b, rfl⟩, rfl⟩
  cases b with
  | false =>
    go_wp2_with fail
    go_ret
    exact ⟨rfl, Below.refl _ _⟩
  | true =>
    go_wp2_with fail
    refine HL.out.mono ?_
    rintro e w2 ⟨A2, c2, rfl, hR2, K2⟩
    have HR2 := Lib.hid hR2
    clear hR2
    go_wp2_with fail
    refine (HAR.out w2 A2 c2 HR2.out).mono ?_
    rintro e w3 ⟨Ab, cb, he, ob3, K3⟩
    rw [HND.out] at he ob3
    subst he
    have HR3 := Lib.hid (HR2.out.keeps K3)
    have HB3 := Lib.hid (Rd.own ob3)
    have K23 := K2.trans K3 (fun _ _ h => h)
    clear ob3
    have hkk := (Keeps.refl (fun _ => False) w3).drew
    have hcv := cv_str (c := cb) (HB3.out.keeps hkk (fun _ _ h => h))
    go_wp2_with fail
    go_region_with (first
      | (go_at_call 9; refine (stJoinTwo _ wz.heap.size 25 Ao As n1 co n2 cs d1 d2 (Whole.new wz _ _) (hoo.keeps ((Keeps.refl (fun _ => False) wz).alloc _) (fun _ _ h => h)) (hos.keeps ((Keeps.refl (fun _ => False) wz).alloc _) (fun _ _ h => h)) (by omega)).mono ?_; rintro e wj ⟨Aj, cj, rfl, oj, Kj, _⟩; rw [HDD.out] at oj; have hcj := cv_str (c := cj) (Rd.own oj); have hkf := (hkk.alloc _).trans Kj (fun _ _ h => h); have hcv := cv_str (c := cb) (HB3.out.keeps hkf (fun _ _ h => h)))
      | (go_at_call 12; refine (HST.out _ Af cf hof).mono ?_; rintro e wz ⟨As, cs, rfl, os, Kl, _⟩; have hos := Rd.own os; have hkk := hkk.trans Kl (fun _ _ h => h); have hcv := cv_str (c := cb) (HB3.out.keeps hkk (fun _ _ h => h)); (try have hol := hol.keeps Kl (fun _ _ h => h)); (try have hoo := hoo.keeps Kl (fun _ _ h => h)); (try have hca := cv_str (c := cb) (HB3.out.keeps (hkk.alloc (.cells #[.slice Ao n1 co, .slice As n2 cs] 25)) (fun _ _ h => h))))
      | (go_at_call 10; refine (HOF.out _ Al cl hol).mono ?_; rintro e wz ⟨Ao, co, rfl, oo, Kl, _⟩; have hoo := Rd.own oo; have hkk := hkk.trans Kl (fun _ _ h => h); have hcv := cv_str (c := cb) (HB3.out.keeps hkk (fun _ _ h => h)); (try have hof := hof.keeps Kl (fun _ _ h => h)); (try have hos := hos.keeps Kl (fun _ _ h => h)); (try have hca := cv_str (c := cb) (HB3.out.keeps (hkk.alloc (.cells #[.slice Ao n1 co, .slice As n2 cs] 25)) (fun _ _ h => h))))
      | (go_at_call 13; refine (HFL.out _ A2 c2 (HR3.out.keeps hkk)).mono ?_; rintro e wz ⟨Af, cf, rfl, of', Kl, _⟩; have hof := Rd.own of'; have hkk := hkk.trans Kl (fun _ _ h => h); have hcv := cv_str (c := cb) (HB3.out.keeps hkk (fun _ _ h => h)); (try have hol := hol.keeps Kl (fun _ _ h => h)); (try have hoo := hoo.keeps Kl (fun _ _ h => h)); (try have hca := cv_str (c := cb) (HB3.out.keeps (hkk.alloc (.cells #[.slice Ao n1 co, .slice As n2 cs] 25)) (fun _ _ h => h))))
      | (go_at_call 11; refine (HLE.out _ A2 c2 (HR3.out.keeps hkk)).mono ?_; rintro e wz ⟨Al, cl, rfl, ol, Kl, _⟩; have hol := Rd.own ol; have hkk := hkk.trans Kl (fun _ _ h => h); have hcv := cv_str (c := cb) (HB3.out.keeps hkk (fun _ _ h => h)); (try have hof := hof.keeps Kl (fun _ _ h => h)); (try have hos := hos.keeps Kl (fun _ _ h => h)); (try have hca := cv_str (c := cb) (HB3.out.keeps (hkk.alloc (.cells #[.slice Ao n1 co, .slice As n2 cs] 25)) (fun _ _ h => h)))))
    all_goals
      go_wp2_with fail
      go_ret
      exact ⟨rfl, (K23.trans hkf (fun _ _ h => h)).below (Nat.le_refl _) (fun _ h => h.elim)⟩
end Go.Proofs.Ytkgjchfbbpabpaa
