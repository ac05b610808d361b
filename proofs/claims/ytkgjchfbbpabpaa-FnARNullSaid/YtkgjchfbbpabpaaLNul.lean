/- The walk of the law on nullable columns. Conditions: lengths that an argument can have. -/
import Derived.Test.YtkgjchfbbpabpaaNs
namespace Go.Proofs.Ytkgjchfbbpabpaa
open Go.RowKit Go.Lib
set_option linter.unusedVariables false
theorem flat_boundN {α : Type} (m : Nat) : ∀ (LL : List (List α)), (∀ L ∈ LL, L.length ≤ m) → LL.flatten.length ≤ LL.length * m
  | [], _ => by simp
  | L :: r, h => by
    have h1 := h L (List.mem_cons_self ..)
    have h2 := flat_boundN m r fun X hX => h X (List.mem_cons_of_mem _ hX)
    rw [List.flatten_cons, List.length_append, List.length_cons, Nat.add_mul, Nat.one_mul]
    omega
theorem maybes_len (L : List Mb) : (maybesOf L).length ≤ 42 ∧ 0 < (maybesOf L).length := by
  rw [maybesOf, List.length_append, List.length_map, List.length_take]
  simp
  omega
theorem maybes_in (L : List Mb) : ∀ p ∈ maybesOf L, p.2.size ≤ 60 ∧ (if p.1 then p.2 else (⟨#[]⟩ : ByteArray)) = p.2 := by
  intro p hp
  rcases List.mem_append.1 hp with h | h
  · obtain ⟨q, _, rfl⟩ := List.mem_map.1 h
    unfold cutM
    by_cases e : q.1 = true
    · rw [if_pos e]; exact ⟨cut60_size _, rfl⟩
    · rw [if_neg e]; exact ⟨by decide, rfl⟩
  · rcases List.mem_cons.1 h with rfl | h
    · exact ⟨by decide, rfl⟩
    · rw [List.mem_singleton.1 h]; exact ⟨by decide, rfl⟩
theorem nul_spec (L : List Mb) (h : ∀ p ∈ L, (if p.1 then p.2 else (⟨#[]⟩ : ByteArray)) = p.2) : nbOfL L ++ encB (ksOfL L) = nulB L := by
  have e : ksOfL L = (vsM L).map sl := by
    rw [ksOfL, vsM, List.map_map]
    refine List.map_congr_left fun p hp => ?_
    simp only [Function.comp]
    rw [h p hp]
  rw [nulB, e, enc_str]
theorem strs_boundN (xs : List ByteArray) (h : ∀ x ∈ xs, x.size ≤ 60) : (xs.map strB).flatten.length ≤ xs.length * 70 := by
  have h1 := flat_boundN 70 (xs.map strB) fun l hl => by
    obtain ⟨x, hm, rfl⟩ := List.mem_map.1 hl
    have h3 := h x hm
    have := Lib.uvarint_length64 (x := x.size) (by omega)
    rw [strB, List.length_append, sl_length]
    omega
  rwa [List.length_map] at h1
theorem cv_nul {w : World} {A : Option Addr} {n c : Nat} {l : List UInt8} (h : Rd w 1 A n (Lib.byteCells l)) : (convert 25 9 (.slice A n c)).run Try.prog w = .ok (.string ⟨l.toArray⟩) w :=
  run_str_rd Try.underlying25 Try.underlying5 Try.underlying9 h
def cvOp (s d : TypeId) (x : Operand) : Op := .convert s d x
theorem cvOp_eq (s d : TypeId) (x : Operand) : cvOp s d x = .convert s d x := rfl
attribute [local go_sem] cvOp_eq

set_option maxRecDepth 100000 in
set_option maxHeartbeats 2000000 in
theorem arNullWalk (w : World) (A : Option Addr) (n c : Nat) (L : List Mb) (hl : L.length = n) (hR : Rd w 2 A n (mbC L)) (hn : n ≤ 9223372036854775807) :
    Calls Try.prog 5 #[.slice A n c] w fun e w' => e = .returned (.bool true) ∧ Below w.heap.size w w' := by
  have HF := Lib.hid (fits5 w A n c L hl hR hn)
  have HL := Lib.hid (fun w1 (K : Keeps (fun _ => False) w w1) => arMaybes w1 A n c L hl (hR.keeps K (fun _ _ h => h)) hn)
  clear hl hR hn
  obtain ⟨b1, b2⟩ := maybes_len L
  have b3 := maybes_in L
  generalize maybesOf L = X at *
  have he := nul_spec X (fun p hp => (b3 p hp).2)
  have hv := strs_boundN (vsM X) (fun x hm => by
    obtain ⟨p, hp, rfl⟩ := List.mem_map.1 hm
    rw [(b3 p hp).2]
    exact (b3 p hp).1)
  rw [vsM, List.length_map, ← vsM] at hv
  have hmb : (nulB X).length ≤ 1000000 := by
    rw [nulB, List.length_append, nbOfL, List.length_map]
    omega
  have HAR := Lib.hid (fun w A c hR => arNull w A X.length c X rfl hR (fun p hp => by have := (b3 p hp).1; omega) b2 (by omega) (by rw [he]; exact hmb))
  have HIM := Lib.hid (fun w A c hR => arNullsImpl w A X.length c X rfl hR (fun p hp => by have := (b3 p hp).1; omega) (by omega))
  have HSP := Lib.hid (fun w A c hR => arNullsSpec w A X.length c X rfl hR (by omega) (fun p hp => by have := (b3 p hp).1; omega) (by omega))
  rw [he] at HAR
  clear b2 b3 hv he hmb
  generalize nulB X = dd at *
  generalize hnx : X.length = nx at *
  generalize hnd : dd.length = nd at *
  have HND := Lib.hid hnd
  have HNX := Lib.hid hnx
  clear hnd hnx
  go_enter Try.func5, Try.ntmps5
  go_wp2_with fail
  refine HF.out.mono ?_
  rintro e w1 ⟨⟨b, rfl⟩, K1⟩
  cases b with
  | false =>
    go_wp2_with fail
    go_ret
    exact ⟨rfl, K1.below (Nat.le_refl _) (fun _ h => h.elim)⟩
  | true =>
    go_wp2_with fail
    refine (HL.out w1 K1).mono ?_
    rintro e w2 ⟨A2, c2, rfl, hO2, K2⟩
    have HR2 := Lib.hid (Rd.own hO2)
    have HK12 := Lib.hid (K1.trans K2 (fun _ _ h => h))
    clear hO2
    go_wp2_with fail
    refine (HAR.out w2 A2 c2 HR2.out).mono ?_
    rintro e w3 ⟨Ab, cb, he, ob3, K3⟩
    rw [HND.out] at he ob3
    subst he
    have HR3 := Lib.hid (HR2.out.keeps K3 (fun _ _ h => h))
    have HB3 := Lib.hid (Rd.own ob3)
    have HK3 := Lib.hid (HK12.out.trans K3 (fun _ _ h => h))
    clear ob3 K3 K2 K1
    go_wp2_with fail
    refine (HIM.out w3 A2 c2 HR3.out).mono ?_
    rintro e w4 ⟨An, cn, rfl, on, K4, _⟩
    have HR4 := Lib.hid (HR3.out.keeps K4 (fun _ _ h => h))
    have HB4 := Lib.hid (HB3.out.keeps K4 (fun _ _ h => h))
    have HN4 := Lib.hid (Rd.own on)
    have HK4 := Lib.hid (HK3.out.trans K4 (fun _ _ h => h))
    clear on K4
    have hkk := (Keeps.refl (fun _ => False) w4).drew
    have hcv := cv_nul (c := cb) (HB4.out.keeps hkk (fun _ _ h => h))
    go_wp2_with fail
    rw [show Op.convert 25 9 (.tmp 26) = cvOp 25 9 (.tmp 26) from rfl]
    go_region_held3 (fun w' => (convert 25 9 (.slice Ab nd cb)).run Try.prog w' = .ok (.string ⟨dd.toArray⟩) w') (first | exact hcv) (
      (go_at_call 22; refine (HSP.out _ A2 c2 (HR4.out.keeps hkk (fun _ _ h => h))).mono ?_; rintro e wj ⟨Aj, cj, rfl, oj, Kj, _⟩; have hcj := cv_nul (c := cj) (Rd.own oj); have hkf := hkk.trans Kj (fun _ _ h => h); have hcv := cv_nul (c := cb) (HB4.out.keeps hkf (fun _ _ h => h))))
    all_goals
      have HKF := Lib.hid hkf
      clear hcv hcj hkf hkk oj Kj
      go_wp2_with fail
      go_loopw [7] (fun i wr => ∃ k : Nat, k ≤ nx ∧ i = .int .i64 k ∧ Keeps (fun _ => False) w4 wr) (fun i _ => nx - (RowKit.intOf i).toNat)
      case atStart => exact ⟨0, Nat.zero_le _, rfl, HKF.out⟩
      case round =>
        obtain ⟨k, hk, rfl, hK⟩ := hrel
        have HK := Lib.hid hK
        clear hK
        by_cases hlt : k < nx
        · obtain ⟨ad, ⟨x, y⟩, rfl, hb2, hp, hc1, hc2⟩ := Rd.maybe (HR4.out.keeps HK.out (fun _ _ h => h)) HNX.out hlt
          dsimp only at hc1 hc2
          obtain ⟨an, u, rfl, hbn, hu, hcn⟩ := (HN4.out.keeps HK.out (fun _ _ h => h)).at' hlt
          rw [offL, List.getElem?_map, hp] at hu
          injection hu with hu
          subst hu
          clear hp hc2
          cases x with
          | false =>
            have s0 : (fun w' => w'.cell? (an.add k) = some (.bool true) ∧ w'.cell? (ad.add (k * 2)) = some (.bool false)) wr.drew := ⟨hcn, hc1⟩
            go_wp2_with fail
            go_region_held3 (fun w' => w'.cell? (an.add k) = some (.bool true) ∧ w'.cell? (ad.add (k * 2)) = some (.bool false)) (exact s0) (fail)
            all_goals
              go_wp2_with fail
              go_roundw
              case rel => exact ⟨k + 1, by omega, by go_num, HK.out.drew⟩
              case measure => (first | (simp [RowKit.intOf]; done) | (simp [RowKit.intOf]; omega))
          | true =>
            have s0 : (fun w' => w'.cell? (an.add k) = some (.bool false) ∧ w'.cell? (ad.add (k * 2)) = some (.bool true)) wr.drew := ⟨hcn, hc1⟩
            go_wp2_with fail
            go_region_held3 (fun w' => w'.cell? (an.add k) = some (.bool false) ∧ w'.cell? (ad.add (k * 2)) = some (.bool true)) (exact s0) (fail)
            all_goals
              go_wp2_with fail
              go_roundw
              case rel => exact ⟨k + 1, by omega, by go_num, HK.out.drew⟩
              case measure => (first | (simp [RowKit.intOf]; done) | (simp [RowKit.intOf]; omega))
        · have hkn : k = nx := by omega
          subst hkn
          go_wp2_with fail
          go_ret
          exact ⟨rfl, (HK4.out.trans HK.out (fun _ _ h => h)).below (Nat.le_refl _) (fun _ h => h.elim)⟩
end Go.Proofs.Ytkgjchfbbpabpaa
