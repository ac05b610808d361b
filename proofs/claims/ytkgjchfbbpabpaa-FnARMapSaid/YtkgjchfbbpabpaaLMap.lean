/- The walk of the law on maps. Conditions: lengths that an argument can have. -/
import Derived.Test.YtkgjchfbbpabpaaMf
namespace Go.Proofs.Ytkgjchfbbpabpaa
open Go.RowKit Go.Lib
set_option linter.unusedVariables false
theorem u64s_endsM : ∀ (ks : List Nat) (s : Nat), u64s (ends s ks) = offB ks s
  | [], _ => rfl
  | k :: r, s => by rw [ends, u64s, List.map_cons, List.flatten_cons, ← u64s, u64s_endsM r (s + k), offB]
theorem mpB_spec (PP : List (List Pr)) : mpB (exOf PP) (ksOf PP) (vsOf PP) = mapB PP := by
  rw [mpB, exOf, u64s_endsM, ksOf, vsOf, enc_str, enc_str]; rfl
theorem flat_boundM {α : Type} (m : Nat) : ∀ (LL : List (List α)), (∀ L ∈ LL, L.length ≤ m) → LL.flatten.length ≤ LL.length * m
  | [], _ => by simp
  | L :: r, h => by
    have h1 := h L (List.mem_cons_self ..)
    have h2 := flat_boundM m r fun X hX => h X (List.mem_cons_of_mem _ hX)
    rw [List.flatten_cons, List.length_append, List.length_cons, Nat.add_mul, Nat.one_mul]
    omega
theorem pairs_len (PP : List (List Pr)) : (pairsOf PP).length ≤ 13 ∧ 0 < (pairsOf PP).length := by
  rw [pairsOf, List.length_append, List.length_map, List.length_take]
  simp
  omega
theorem pairs_in (PP : List (List Pr)) : ∀ L ∈ pairsOf PP, L.length ≤ 8 ∧ ∀ p ∈ L, p.1.size ≤ 60 ∧ p.2.size ≤ 60 := by
  intro L hL
  rcases List.mem_append.1 hL with h | h
  · obtain ⟨X, _, rfl⟩ := List.mem_map.1 h
    refine ⟨by rw [pairsIn, List.length_map, List.length_take]; omega, fun p hp => ?_⟩
    obtain ⟨y, _, rfl⟩ := List.mem_map.1 hp
    exact ⟨cut60_size _, cut60_size _⟩
  · rw [List.mem_singleton.1 h]
    refine ⟨by decide, fun p hp => ?_⟩
    rw [List.mem_singleton.1 hp]
    exact ⟨by decide, by decide⟩
theorem strs_boundM (xs : List ByteArray) (h : ∀ x ∈ xs, x.size ≤ 60) : (xs.map strB).flatten.length ≤ xs.length * 70 := by
  have h1 := flat_boundM 70 (xs.map strB) fun l hl => by
    obtain ⟨x, hm, rfl⟩ := List.mem_map.1 hl
    have h3 := h x hm
    have := Lib.uvarint_length64 (x := x.size) (by omega)
    rw [strB, List.length_append, sl_length]
    omega
  rwa [List.length_map] at h1
theorem cv_map {w : World} {A : Option Addr} {n c : Nat} {l : List UInt8} (h : Rd w 1 A n (Lib.byteCells l)) : (convert 25 9 (.slice A n c)).run Try.prog w = .ok (.string ⟨l.toArray⟩) w :=
  run_str_rd Try.underlying25 Try.underlying5 Try.underlying9 h
def cvOp (s d : TypeId) (x : Operand) : Op := .convert s d x
theorem cvOp_eq (s d : TypeId) (x : Operand) : cvOp s d x = .convert s d x := rfl
attribute [local go_sem] cvOp_eq

set_option maxRecDepth 100000 in
set_option maxHeartbeats 2000000 in
theorem arMapWalk (w : World) (A : Option Addr) (n c : Nat) (PP : List (List Pr)) (hl : PP.length = n) (hR : RowsP w A PP) (hi : ∀ X ∈ PP, X.length ≤ 9223372036854775807) (hn : n ≤ 9223372036854775807) :
    Calls Try.prog 4 #[.slice A n c] w fun e w' => e = .returned (.bool true) ∧ Below w.heap.size w w' := by
  have HF := Lib.hid (fits8 w A n c PP hl hR hi hn)
  have HL := Lib.hid (fun w1 (K : Keeps (fun _ => False) w w1) => arPairs w1 A n c PP hl (hR.keeps K) hn hi)
  clear hl hR hi hn
  obtain ⟨b1, b2⟩ := pairs_len PP
  have b3 := pairs_in PP
  have he := mpB_spec (pairsOf PP)
  generalize pairsOf PP = X at *
  have hx : ∀ p ∈ X.flatten, p.1.size ≤ 60 ∧ p.2.size ≤ 60 := fun p hp => by
    obtain ⟨L, hL, hm⟩ := List.mem_flatten.1 hp
    exact (b3 L hL).2 p hm
  have hf : X.flatten.length ≤ 104 := Nat.le_trans (flat_boundM 8 _ fun L hL => (b3 L hL).1) (by omega)
  have hk := strs_boundM (keysOf X.flatten) (fun x hm => by obtain ⟨p, hp, rfl⟩ := List.mem_map.1 hm; exact (hx p hp).1)
  have hv := strs_boundM (valsOf X.flatten) (fun x hm => by obtain ⟨p, hp, rfl⟩ := List.mem_map.1 hm; exact (hx p hp).2)
  rw [keysOf, List.length_map, ← keysOf] at hk
  rw [valsOf, List.length_map, ← valsOf] at hv
  have hmb : (mapB X).length ≤ 1000000 := by
    have h1 := offB_length (X.map List.length) 0
    rw [List.length_map] at h1
    rw [mapB, List.length_append, List.length_append]
    omega
  have HAR := Lib.hid (fun w A c hR => arMap w A X.length c X rfl hR (fun p hp => by have := hx p hp; omega) (by omega) (fun L hL => by have := (b3 L hL).1; omega) b2 (by omega) (by rw [he]; exact hmb))
  have HSP := Lib.hid (fun w A c hR => arPairsSpec w A X.length c X rfl hR (by omega) (by omega) (fun p hp => by have := hx p hp; omega) (by omega) (by omega))
  rw [he] at HAR
  clear b1 b2 b3 hx hf hk hv he hmb
  generalize mapB X = dd at *
  generalize X.length = nx at *
  generalize hnd : dd.length = nd at *
  have HND := Lib.hid hnd
  clear hnd
  go_enter Try.func4, Try.ntmps4
  go_wp2_with fail
  refine HF.out.mono ?_
  rintro e w1 ⟨⟨b, rfl⟩, K1⟩
  cases b with
  | false =>
    go_wp2_with fail
    go_ret
    exact ⟨rfl, K1.below (Nat.le_refl _) (fun _ h => h.elim)⟩
  | true =>
    go_wp2_with fail
    refine (HL.out w1 K1).mono ?_
    rintro e w2 ⟨A2, c2, rfl, hR2, K2⟩
    have HR2 := Lib.hid hR2
    have HK12 := Lib.hid (K1.trans K2 (fun _ _ h => h))
    clear hR2
    go_wp2_with fail
    refine (HAR.out w2 A2 c2 HR2.out).mono ?_
    rintro e w3 ⟨Ab, cb, he, ob3, K3⟩
    rw [HND.out] at he ob3
    subst he
    have HR3 := Lib.hid (HR2.out.keeps K3)
    have HB3 := Lib.hid (Rd.own ob3)
    have HK3 := Lib.hid (HK12.out.trans K3 (fun _ _ h => h))
    clear ob3 K3 K2 K1
    have hkk := (Keeps.refl (fun _ => False) w3).drew
    have hcv := cv_map (c := cb) (HB3.out.keeps hkk (fun _ _ h => h))
    go_wp2_with fail
    rw [show Op.convert 25 9 (.tmp 21) = cvOp 25 9 (.tmp 21) from rfl]
    go_region_held3 (fun w' => (convert 25 9 (.slice Ab nd cb)).run Try.prog w' = .ok (.string ⟨dd.toArray⟩) w') (first | exact hcv) (
      (go_at_call 17; refine (HSP.out _ A2 c2 (HR3.out.keeps hkk)).mono ?_; rintro e wj ⟨Aj, cj, rfl, oj, Kj, _⟩; have hcj := cv_map (c := cj) (Rd.own oj); have hkf := hkk.trans Kj (fun _ _ h => h); have hcv := cv_map (c := cb) (HB3.out.keeps hkf (fun _ _ h => h))))
    all_goals
      go_wp2_with fail
      go_ret
      exact ⟨rfl, (HK3.out.trans hkf (fun _ _ h => h)).below (Nat.le_refl _) (fun _ h => h.elim)⟩
end Go.Proofs.Ytkgjchfbbpabpaa
