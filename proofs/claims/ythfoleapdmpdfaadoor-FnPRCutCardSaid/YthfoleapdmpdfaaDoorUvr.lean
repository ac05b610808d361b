/- A varint read by a reader: any bytes. Conditions as in the text of the reader. -/
import Derived.Test.YthfoleapdmpdfaaDoorRd2
import Derived.Lib.VarintBits
import Derived.OpenShut
namespace Go.Proofs.YthfoleapdmpdfaaDoor
open Go.RowKit

/-- What a varint from the front of some bytes is: k bytes more may come, i have come, they made acc. -/
def uvGo : Nat → Nat → Nat → List UInt8 → Option (Nat × List UInt8)
  | 0, _, _, _ => none
  | _ + 1, _, _, [] => none
  | k + 1, i, acc, b :: l => if b.toNat < 128 then (if i = 9 ∧ 1 < b.toNat then none else some (acc + b.toNat * 2 ^ (7 * i), l)) else uvGo k (i + 1) (acc + (b.toNat - 128) * 2 ^ (7 * i)) l

theorem uvGo_zero (i acc : Nat) (l : List UInt8) : uvGo 0 i acc l = none := by cases l <;> rfl
theorem uvGo_nil {m i acc : Nat} (h : m = 10 - i) : uvGo m i acc [] = none := by cases m <;> rfl
theorem uvGo_over {acc x : Nat} {b : UInt8} {l : List UInt8} (hx : b.toNat = x) (h : x < 128) (h1 : 1 < x) : uvGo (10 - 9) 9 acc (b :: l) = none := by
  show (if b.toNat < 128 then (if 9 = 9 ∧ 1 < b.toNat then none else _) else _) = none
  rw [hx, if_pos h, if_pos ⟨rfl, h1⟩]
theorem uvGo_last {i acc x : Nat} {b : UInt8} {l : List UInt8} (hx : b.toNat = x) (hi : i < 10) (h : x < 128) (h1 : ¬ (i = 9 ∧ 1 < x)) : uvGo (10 - i) i acc (b :: l) = some (acc + x * 2 ^ (7 * i), l) := by
  obtain ⟨k, hk⟩ : ∃ k, 10 - i = k + 1 := ⟨9 - i, by omega⟩
  rw [hk]
  show (if b.toNat < 128 then (if i = 9 ∧ 1 < b.toNat then none else some (acc + b.toNat * 2 ^ (7 * i), l)) else _) = _
  rw [hx, if_pos h, if_neg h1]
theorem uvGo_more {i acc x : Nat} {b : UInt8} {l : List UInt8} (hx : b.toNat = x) (hi : i < 10) (h : ¬ x < 128) : uvGo (10 - i) i acc (b :: l) = uvGo (10 - (i + 1)) (i + 1) (acc + (x - 128) * 2 ^ (7 * i)) l := by
  obtain ⟨k, hk⟩ : ∃ k, 10 - i = k + 1 := ⟨9 - i, by omega⟩
  rw [hk, show 10 - (i + 1) = k by omega]
  show (if b.toNat < 128 then _ else uvGo k _ (acc + (b.toNat - 128) * 2 ^ (7 * i)) l) = _
  rw [hx, if_neg h]
theorem ret2_int {k : IntKind} {a b : Int} {v : Value} (h : a = b) : Ending.returned (.tuple #[.int k a, v]) = .returned (.tuple #[.int k b, v]) := by rw [h]
theorem or_shift (acc x m : Nat) (hacc : acc < 2 ^ m) (h : x * 2 ^ m < 18446744073709551616) (ha : acc < 18446744073709551616) : Go.bits .or .u64 (acc : Int) (IntKind.u64.wrap ((x : Int) * 2 ^ m)) = ((acc + x * 2 ^ m : Nat) : Int) := by
  have hc : (x : Int) * 2 ^ m = ((x * 2 ^ m : Nat) : Int) := by simp
  rw [hc, wraps_u64 _ (by omega) (by show _ < (18446744073709551616 : Int); omega)]
  rw [bits_join_low .u64 64 (by decide) wraps_u64 m _ _ (by omega) (by have : ((2 : Int) ^ m) = ((2 ^ m : Nat) : Int) := by simp
                                                                       rw [this]; exact_mod_cast hacc) (by show _ < (18446744073709551616 : Int); omega) (by omega) ?_ (by show _ < (18446744073709551616 : Int); omega)]
  · simp
  · have : ((2 : Int) ^ m) = ((2 ^ m : Nat) : Int) := by simp
    rw [this]
    have h2 : x * 2 ^ m % 2 ^ m = 0 := Nat.mul_mod_left _ _
    exact_mod_cast h2
theorem pow7 (i : Nat) (h : i ≤ 8) : 128 * 2 ^ (7 * i) = 2 ^ (7 * (i + 1)) ∧ 2 ^ (7 * i) ≤ 72057594037927936 := by
  match i, h with
  | 0, _ | 1, _ | 2, _ | 3, _ | 4, _ | 5, _ | 6, _ | 7, _ | 8, _ => decide
theorem and127 (x : Nat) (h1 : 128 ≤ x) (h2 : x < 256) : IntKind.u64.wrap (Go.bits .and .u8 (x : Int) 127) = ((x - 128 : Nat) : Int) := by
  rw [u8_and127 _ (by omega) (by omega), wraps_u64 _ (by omega) (by show _ < (18446744073709551616 : Int); omega)]
  omega
theorem or_nat (a b : Int) : ∃ n : Nat, Go.bits .or .u64 a b = (n : Int) ∧ n < 18446744073709551616 := by
  have h := bounds_u64 (wf_bits .or .u64 a b)
  exact ⟨(Go.bits .or .u64 a b).toNat, by omega, by omega⟩

set_option maxRecDepth 100000 in
set_option maxHeartbeats 1000000 in
theorem uvarint_any (w : World) (base rb bb : Nat) (D R : Option Nat) (d : List UInt8) (hR : RdrOn w base rb bb D R d) :
    Calls Tryd.prog 80 #[.pointer (some ⟨rb, 0, none⟩)] w fun e w' =>
      (∃ x l, uvGo 10 0 0 d = some (x, l) ∧ e = .returned (.tuple #[.int .u64 x, .nilIface]) ∧ RdrGo w w' base rb bb D R l) ∨
      (∃ v l, uvGo 10 0 0 d = none ∧ e = .returned (.tuple #[.int .u64 0, v]) ∧ IsErr v ∧ RdrGo w w' base rb bb D R l) := by
  go_enter Tryd.func80, Tryd.ntmps80
  go_wp2_with fail
  go_loopw [4, 5, 6] (fun X S I wr => ∃ (i acc s : Nat) (l : List UInt8), i ≤ 10 ∧ I = .int .i64 i ∧ S = .int .u64 s ∧ X = .int .u64 acc ∧ s = 7 * i ∧ acc < 2 ^ (7 * i) ∧ uvGo 10 0 0 d = uvGo (10 - i) i acc l ∧ ∃ R1, RdrOn wr base rb bb D R1 l ∧ (R1 = R ∨ ∀ i, R1 = some i → w.heap.size ≤ i) ∧ Keeps (fun i => i = rb ∨ i = bb ∨ R = some i) w wr) (fun _ _ I _ => (10 - intOf I).toNat)
  case atStart => exact ⟨0, 0, 0, d, by omega, rfl, rfl, rfl, rfl, by decide, rfl, R, hR, .inl rfl, Keeps.refl _ _⟩
  case round =>
    obtain ⟨i, acc, s, l, hi, rfl, rfl, rfl, hs, hacc, hd, R1, hR1, hRR, hK⟩ := hrel
    by_cases h10 : i < 10
    · rcases l with _ | ⟨b, l⟩
      · have HD := Lib.hid hd
        clear hd hs hacc
        go_wp2_with fail
        refine (readByte_err _ base rb bb D R1 [] hR1 (by simp)).mono ?_
        rintro e w1 ⟨v, rfl, ⟨a, rfl⟩, hG⟩
        go_wp2_with (go_at_call 68; go_in)
        go_ret2
        refine .inr ⟨_, [], ?_, rfl, ⟨_, rfl⟩, (RdrGo.trans hRR hK hG).after ((Keeps.refl _ _).alloc _)⟩
        rw [HD.out]
        exact uvGo_nil rfl
      · have HD := Lib.hid hd
        have HS := Lib.hid hs
        have HA := Lib.hid hacc
        clear hd hs hacc
        have hb := b.toNat_lt
        go_wp2_with fail
        refine (readByte_ok _ base rb bb D R1 b l hR1).mono ?_
        rintro e w1 ⟨rfl, hG⟩
        generalize hx : b.toNat = x at *
        have HX := Lib.hid hx
        clear hx
        have hsb : s ≤ 63 := by have := HS.out; omega
        by_cases hlt : x < 128
        · by_cases h9 : i = 9
          · subst h9
            by_cases h1 : 1 < x
            · go_wp2_with (go_at_call 93; go_in)
              go_ret2
              refine .inr ⟨_, l, ?_, rfl, ⟨_, rfl⟩, (RdrGo.trans hRR hK hG).after ((Keeps.refl _ _).alloc _)⟩
              rw [HD.out]
              exact uvGo_over HX.out hlt h1
            · go_wp2_with fail
              go_ret2
              refine .inl ⟨acc + x * 2 ^ (7 * 9), l, ?_, ?_, RdrGo.trans hRR hK hG⟩
              · rw [HD.out]
                exact uvGo_last HX.out (by omega) hlt (fun h => h1 h.2)
              · have ha := HA.out
                have e := or_shift acc x (7 * 9) ha (by omega) (by omega)
                rw [← HS.out] at e ⊢
                exact ret2_int e
          · go_wp2_with fail
            go_ret2
            obtain ⟨p1, p2⟩ := pow7 i (by omega)
            refine .inl ⟨acc + x * 2 ^ (7 * i), l, ?_, ?_, RdrGo.trans hRR hK hG⟩
            · rw [HD.out]
              exact uvGo_last HX.out h10 hlt (fun h => h9 h.1)
            · have ha := HA.out
              have hm : x * 2 ^ (7 * i) ≤ 128 * 2 ^ (7 * i) := Nat.mul_le_mul_right _ (by omega)
              have e := or_shift acc x (7 * i) ha (by omega) (by omega)
              rw [← HS.out] at e ⊢
              exact ret2_int e
        · have h7 := and127 x (by omega) (by omega)
          have H7 := Lib.hid h7
          clear h7
          go_wp2_with fail
          go_roundw
          case rel =>
            have hkeep := RdrGo.trans hRR hK hG
            obtain ⟨R2, hR2, hRR2⟩ := hkeep.on
            have hs7 : Value.int .u64 ((s : Int) + 7) = Value.int .u64 ((s + 7 : Nat) : Int) := by simp
            have hstep : uvGo (10 - i) i acc (b :: l) = uvGo (10 - (i + 1)) (i + 1) (acc + (x - 128) * 2 ^ (7 * i)) l := uvGo_more HX.out h10 hlt
            by_cases h9 : i = 9
            · subst h9
              obtain ⟨n, hn, hn2⟩ := or_nat (acc : Int) (IntKind.u64.wrap (IntKind.u64.wrap (Go.bits .and .u8 (x : Int) 127) * 2 ^ s))
              exact ⟨10, n, s + 7, l, by omega, rfl, hs7, by rw [hn], by have := HS.out; omega, by omega, by rw [HD.out, hstep]; exact (uvGo_zero _ _ _).trans (uvGo_zero _ _ _).symm, R2, hR2, hRR2, hkeep.keeps⟩
            · obtain ⟨p1, p2⟩ := pow7 i (by omega)
              have ha := HA.out
              have hm : (x - 128) * 2 ^ (7 * i) ≤ 127 * 2 ^ (7 * i) := Nat.mul_le_mul_right _ (by omega)
              have e := or_shift acc (x - 128) (7 * i) ha (by omega) (by omega)
              rw [← H7.out, ← HS.out] at e
              exact ⟨i + 1, acc + (x - 128) * 2 ^ (7 * i), s + 7, l, by omega, by simp, hs7, by rw [e, HS.out], by have := HS.out; omega, by omega, by rw [HD.out, hstep], R2, hR2, hRR2, hkeep.keeps⟩
          case measure => simp [intOf]; omega
    · obtain rfl : i = 10 := by omega
      have HD := Lib.hid hd
      clear hd hs hacc
      go_wp2_with (go_at_call 93; go_in)
      go_ret2
      refine .inr ⟨_, l, HD.out, rfl, ⟨_, rfl⟩, (RdrGo.trans hRR hK (RdrGo.refl hR1)).after ((Keeps.refl _ _).alloc _)⟩
end Go.Proofs.YthfoleapdmpdfaaDoor
