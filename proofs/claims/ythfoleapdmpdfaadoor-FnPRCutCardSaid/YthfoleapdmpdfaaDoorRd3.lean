/- Contracts of truth values and signed numbers that a reader reads. Conditions as in the text of the reader. -/
import Derived.Test.YthfoleapdmpdfaaDoorUvr
namespace Go.Proofs.YthfoleapdmpdfaaDoor
open Go.RowKit
/-- What a truth value from the front of d is, or an error. -/
def BoolGo (w : World) (base rb bb : Nat) (D R : Option Nat) (d : List UInt8) (e : Ending) (w' : World) : Prop :=
  (∃ b l, d = b :: l ∧ b.toNat ≤ 1 ∧ e = .returned (.tuple #[.bool (decide (b.toNat = 1)), .nilIface]) ∧ RdrGo w w' base rb bb D R l) ∨
  (∃ v l, (d = [] ∨ ∃ b m, d = b :: m ∧ 1 < b.toNat) ∧ e = .returned (.tuple #[.bool false, v]) ∧ IsErr v ∧ RdrGo w w' base rb bb D R l)
theorem wrap_i8 (n : Int) : IntKind.i8.wrap n = (n + 128) % 256 - 128 := by
  simp [IntKind.wrap, IntKind.bits, IntKind.signed]; split <;> omega
theorem wrap_i16 (n : Int) : IntKind.i16.wrap n = (n + 32768) % 65536 - 32768 := by
  simp [IntKind.wrap, IntKind.bits, IntKind.signed]; split <;> omega
set_option maxHeartbeats 400000 in
theorem bool_any (w : World) (base rb bb : Nat) (D R : Option Nat) (d : List UInt8) (hR : RdrOn w base rb bb D R d) :
    Calls Tryd.prog 38 #[.pointer (some ⟨rb, 0, none⟩)] w fun e w' =>
      BoolGo w base rb bb D R d e w' := by
  rcases d with _ | ⟨b, l⟩
  · go_enter Tryd.func38, Tryd.ntmps38
    go_wp2_with fail
    refine (uint8_err _ base rb bb D R [] hR (by simp)).mono ?_
    rintro e w1 ⟨v, rfl, ⟨a, rfl⟩, hG⟩
    go_wp2
    go_ret2
    exact .inr ⟨_, [], .inl rfl, rfl, ⟨_, rfl⟩, hG.after ((Keeps.refl _ _).alloc _)⟩
  · have hb := b.toNat_lt
    by_cases h1 : b.toNat = 1
    · go_enter Tryd.func38, Tryd.ntmps38
      go_wp2_with fail
      refine (uint8_ok _ base rb bb D R b l hR).mono ?_
      rw [h1]
      rintro e w1 ⟨rfl, hG⟩
      have H1 := Lib.hid h1
      clear h1
      go_wp2
      go_ret2
      exact .inl ⟨b, l, rfl, by rw [H1.out]; omega, by rw [H1.out]; rfl, hG⟩
    · by_cases h0 : b.toNat = 0
      · go_enter Tryd.func38, Tryd.ntmps38
        go_wp2_with fail
        refine (uint8_ok _ base rb bb D R b l hR).mono ?_
        rw [h0]
        rintro e w1 ⟨rfl, hG⟩
        have H1 := Lib.hid h0
        clear h0
        go_wp2
        go_ret2
        exact .inl ⟨b, l, rfl, by rw [H1.out]; omega, by rw [H1.out]; rfl, hG⟩
      · generalize hx : b.toNat = x at *
        have HX := Lib.hid hx
        clear hx
        go_enter Tryd.func38, Tryd.ntmps38
        go_wp2_with fail
        refine (uint8_ok _ base rb bb D R b l hR).mono ?_
        rw [HX.out]
        rintro e w1 ⟨rfl, hG⟩
        have e1 : ((x : Int) == 1) = false := by simp; omega
        have e0 : ((x : Int) == 0) = false := by simp; omega
        clear h0 h1
        go_wp2
        go_ret2
        refine .inr ⟨_, l, .inr ⟨b, l, rfl, ?_⟩, rfl, ⟨_, rfl⟩, hG.after (by repeat (first | exact Keeps.refl _ _ | refine Keeps.alloc ?_ _))⟩
        rw [HX.out]
        simp at e1 e0
        omega

set_option maxHeartbeats 400000 in
theorem int8_ok (w : World) (base rb bb : Nat) (D R : Option Nat) (b : UInt8) (d : List UInt8) (hR : RdrOn w base rb bb D R (b :: d)) :
    Calls Tryd.prog 39 #[.pointer (some ⟨rb, 0, none⟩)] w fun e w' => e = .returned (.tuple #[.int .i8 (IntKind.i8.wrap b.toNat), .nilIface]) ∧ RdrGo w w' base rb bb D R d := by
  generalize hx : b.toNat = x
  have HX := Lib.hid hx
  clear hx
  go_enter Tryd.func39, Tryd.ntmps39
  go_wp2_with fail
  refine (uint8_ok _ base rb bb D R b d hR).mono ?_
  rw [HX.out]
  rintro e w1 ⟨rfl, hG⟩
  go_wp2
  go_ret2
  exact ⟨by rw [wrap_i8]; simp, hG⟩
set_option maxHeartbeats 400000 in
theorem int8_err (w : World) (base rb bb : Nat) (D R : Option Nat) (d : List UInt8) (hR : RdrOn w base rb bb D R d) (hd : d.length < 1) :
    Calls Tryd.prog 39 #[.pointer (some ⟨rb, 0, none⟩)] w fun e w' => ∃ v, e = .returned (.tuple #[.int .i8 0, v]) ∧ IsErr v ∧ RdrGo w w' base rb bb D R [] := by
  go_enter Tryd.func39, Tryd.ntmps39
  go_wp2_with fail
  refine (uint8_err _ base rb bb D R d hR hd).mono ?_
  rintro e w1 ⟨v, rfl, ⟨a, rfl⟩, hG⟩
  go_wp2
  go_ret2
  exact ⟨_, rfl, ⟨_, rfl⟩, hG⟩

set_option maxHeartbeats 400000 in
theorem int16_ok (w : World) (base rb bb : Nat) (D R : Option Nat) (l d : List UInt8) (hl : l.length = 2) (hR : RdrOn w base rb bb D R (l ++ d)) :
    Calls Tryd.prog 40 #[.pointer (some ⟨rb, 0, none⟩)] w fun e w' => e = .returned (.tuple #[.int .i16 (IntKind.i16.wrap (Lib.leNat l)), .nilIface]) ∧ RdrGo w w' base rb bb D R d := by
  generalize hx : Lib.leNat l = x
  have HX := Lib.hid hx
  clear hx
  go_enter Tryd.func40, Tryd.ntmps40
  go_wp2_with fail
  refine (uint16_ok _ base rb bb D R l d hl hR).mono ?_
  rw [HX.out]
  rintro e w1 ⟨rfl, hG⟩
  go_wp2
  go_ret2
  exact ⟨by rw [wrap_i16]; simp, hG⟩
set_option maxHeartbeats 400000 in
theorem int16_err (w : World) (base rb bb : Nat) (D R : Option Nat) (d : List UInt8) (hR : RdrOn w base rb bb D R d) (hd : d.length < 2) :
    Calls Tryd.prog 40 #[.pointer (some ⟨rb, 0, none⟩)] w fun e w' => ∃ v, e = .returned (.tuple #[.int .i16 0, v]) ∧ IsErr v ∧ RdrGo w w' base rb bb D R [] := by
  go_enter Tryd.func40, Tryd.ntmps40
  go_wp2_with fail
  refine (uint16_err _ base rb bb D R d hR hd).mono ?_
  rintro e w1 ⟨v, rfl, ⟨a, rfl⟩, hG⟩
  go_wp2
  go_ret2
  exact ⟨_, rfl, ⟨_, rfl⟩, hG⟩

set_option maxHeartbeats 400000 in
theorem int32_ok (w : World) (base rb bb : Nat) (D R : Option Nat) (l d : List UInt8) (hl : l.length = 4) (hR : RdrOn w base rb bb D R (l ++ d)) :
    Calls Tryd.prog 41 #[.pointer (some ⟨rb, 0, none⟩)] w fun e w' => e = .returned (.tuple #[.int .i32 (IntKind.i32.wrap (Lib.leNat l)), .nilIface]) ∧ RdrGo w w' base rb bb D R d := by
  generalize hx : Lib.leNat l = x
  have HX := Lib.hid hx
  clear hx
  go_enter Tryd.func41, Tryd.ntmps41
  go_wp2_with fail
  refine (uint32_ok _ base rb bb D R l d hl hR).mono ?_
  rw [HX.out]
  rintro e w1 ⟨rfl, hG⟩
  go_wp2
  go_ret2
  exact ⟨by rw [IntKind.wrap_i32]; simp [wrap32], hG⟩
set_option maxHeartbeats 400000 in
theorem int32_err (w : World) (base rb bb : Nat) (D R : Option Nat) (d : List UInt8) (hR : RdrOn w base rb bb D R d) (hd : d.length < 4) :
    Calls Tryd.prog 41 #[.pointer (some ⟨rb, 0, none⟩)] w fun e w' => ∃ v, e = .returned (.tuple #[.int .i32 0, v]) ∧ IsErr v ∧ RdrGo w w' base rb bb D R [] := by
  go_enter Tryd.func41, Tryd.ntmps41
  go_wp2_with fail
  refine (uint32_err _ base rb bb D R d hR hd).mono ?_
  rintro e w1 ⟨v, rfl, ⟨a, rfl⟩, hG⟩
  go_wp2
  go_ret2
  exact ⟨_, rfl, ⟨_, rfl⟩, hG⟩

set_option maxHeartbeats 400000 in
theorem int64_ok (w : World) (base rb bb : Nat) (D R : Option Nat) (l d : List UInt8) (hl : l.length = 8) (hR : RdrOn w base rb bb D R (l ++ d)) :
    Calls Tryd.prog 42 #[.pointer (some ⟨rb, 0, none⟩)] w fun e w' => e = .returned (.tuple #[.int .i64 (IntKind.i64.wrap (Lib.leNat l)), .nilIface]) ∧ RdrGo w w' base rb bb D R d := by
  generalize hx : Lib.leNat l = x
  have HX := Lib.hid hx
  clear hx
  go_enter Tryd.func42, Tryd.ntmps42
  go_wp2_with fail
  refine (uint64_ok _ base rb bb D R l d hl hR).mono ?_
  rw [HX.out]
  rintro e w1 ⟨rfl, hG⟩
  go_wp2
  go_ret2
  exact ⟨by rw [IntKind.wrap_i64]; simp [wrap64], hG⟩
set_option maxHeartbeats 400000 in
theorem int64_err (w : World) (base rb bb : Nat) (D R : Option Nat) (d : List UInt8) (hR : RdrOn w base rb bb D R d) (hd : d.length < 8) :
    Calls Tryd.prog 42 #[.pointer (some ⟨rb, 0, none⟩)] w fun e w' => ∃ v, e = .returned (.tuple #[.int .i64 0, v]) ∧ IsErr v ∧ RdrGo w w' base rb bb D R [] := by
  go_enter Tryd.func42, Tryd.ntmps42
  go_wp2_with fail
  refine (uint64_err _ base rb bb D R d hR hd).mono ?_
  rintro e w1 ⟨v, rfl, ⟨a, rfl⟩, hG⟩
  go_wp2
  go_ret2
  exact ⟨_, rfl, ⟨_, rfl⟩, hG⟩
end Go.Proofs.YthfoleapdmpdfaaDoor
