/- What the methods of a reader answer, whatever the bytes are. Conditions: those of the reader; a string's length is at most 1000. -/
import Derived.Test.YthfoleapdmpdfaaDoorRd4
import Derived.Test.YthfoleapdmpdfaaDoorStrR
namespace Go.Proofs.YthfoleapdmpdfaaDoor
open Go.RowKit Go.Lib
set_option linter.unusedVariables false
/-- What a reader's method answers: a value and what is left, or an error. -/
def RdStep (w : World) (base rb bb : Nat) (D R : Option Nat) (z : Value) (o : Option (Value × List UInt8)) (e : Ending) (w' : World) : Prop :=
  (∃ v l, o = some (v, l) ∧ e = .returned (.tuple #[v, .nilIface]) ∧ RdrGo w w' base rb bb D R l) ∨
  (∃ x l, o = none ∧ e = .returned (.tuple #[z, x]) ∧ IsErr x ∧ RdrGo w w' base rb bb D R l)
/-- A number of k bytes from the front. -/
def fixN (k : Nat) (f : Nat → Value) (d : List UInt8) : Option (Value × List UInt8) := if d.length < k then none else some (f (leNat (d.take k)), d.drop k)
theorem cutN {d : List UInt8} {k : Nat} (h : ¬ d.length < k) : ∃ l r, d = l ++ r ∧ l.length = k := ⟨d.take k, d.drop k, (List.take_append_drop k d).symm, by rw [List.length_take]; omega⟩
theorem fixN_some {k : Nat} {f : Nat → Value} {l r : List UInt8} (h : l.length = k) : fixN k f (l ++ r) = some (f (leNat l), r) := by
  rw [fixN, if_neg (by rw [List.length_append]; omega), List.take_left' h, List.drop_left' h]
theorem fixN_none {k : Nat} {f : Nat → Value} {d : List UInt8} (h : d.length < k) : fixN k f d = none := by rw [fixN, if_pos h]
def fUInt8 : Nat → Value := fun x => .int .u8 (x : Int)
theorem rwUInt8 (w : World) (base rb bb : Nat) (D R : Option Nat) (d : List UInt8) (hR : RdrOn w base rb bb D R d) : Calls Tryd.prog 43 #[.pointer (some ⟨rb, 0, none⟩)] w (RdStep w base rb bb D R (.int .u8 0) (fixN 1 fUInt8 d)) := by
  by_cases h : d.length < 1
  · refine (uint8_err w base rb bb D R d hR h).mono ?_
    rintro e w1 ⟨v, rfl, hv, hG⟩
    exact .inr ⟨v, [], fixN_none h, rfl, hv, hG⟩
  · obtain ⟨l, r, rfl, hl⟩ := cutN h
    obtain ⟨b, rfl⟩ : ∃ b, l = [b] := List.length_eq_one_iff.mp hl
    refine (uint8_ok w base rb bb D R b r hR).mono ?_
    rintro e w1 ⟨rfl, hG⟩
    exact .inl ⟨_, r, fixN_some hl, by simp [fUInt8, leNat], hG⟩
def fInt8 : Nat → Value := fun x => .int .i8 (IntKind.i8.wrap (x : Int))
theorem rwInt8 (w : World) (base rb bb : Nat) (D R : Option Nat) (d : List UInt8) (hR : RdrOn w base rb bb D R d) : Calls Tryd.prog 39 #[.pointer (some ⟨rb, 0, none⟩)] w (RdStep w base rb bb D R (.int .i8 0) (fixN 1 fInt8 d)) := by
  by_cases h : d.length < 1
  · refine (int8_err w base rb bb D R d hR h).mono ?_
    rintro e w1 ⟨v, rfl, hv, hG⟩
    exact .inr ⟨v, [], fixN_none h, rfl, hv, hG⟩
  · obtain ⟨l, r, rfl, hl⟩ := cutN h
    obtain ⟨b, rfl⟩ : ∃ b, l = [b] := List.length_eq_one_iff.mp hl
    refine (int8_ok w base rb bb D R b r hR).mono ?_
    rintro e w1 ⟨rfl, hG⟩
    exact .inl ⟨_, r, fixN_some hl, by simp [fInt8, leNat], hG⟩
def fUInt16 : Nat → Value := fun x => .int .u16 (x : Int)
theorem rwUInt16 (w : World) (base rb bb : Nat) (D R : Option Nat) (d : List UInt8) (hR : RdrOn w base rb bb D R d) : Calls Tryd.prog 44 #[.pointer (some ⟨rb, 0, none⟩)] w (RdStep w base rb bb D R (.int .u16 0) (fixN 2 fUInt16 d)) := by
  by_cases h : d.length < 2
  · refine (uint16_err w base rb bb D R d hR h).mono ?_
    rintro e w1 ⟨v, rfl, hv, hG⟩
    exact .inr ⟨v, [], fixN_none h, rfl, hv, hG⟩
  · obtain ⟨l, r, rfl, hl⟩ := cutN h
    refine (uint16_ok w base rb bb D R l r hl hR).mono ?_
    rintro e w1 ⟨rfl, hG⟩
    exact .inl ⟨_, r, fixN_some hl, by simp [fUInt16], hG⟩
def fInt16 : Nat → Value := fun x => .int .i16 (IntKind.i16.wrap (x : Int))
theorem rwInt16 (w : World) (base rb bb : Nat) (D R : Option Nat) (d : List UInt8) (hR : RdrOn w base rb bb D R d) : Calls Tryd.prog 40 #[.pointer (some ⟨rb, 0, none⟩)] w (RdStep w base rb bb D R (.int .i16 0) (fixN 2 fInt16 d)) := by
  by_cases h : d.length < 2
  · refine (int16_err w base rb bb D R d hR h).mono ?_
    rintro e w1 ⟨v, rfl, hv, hG⟩
    exact .inr ⟨v, [], fixN_none h, rfl, hv, hG⟩
  · obtain ⟨l, r, rfl, hl⟩ := cutN h
    refine (int16_ok w base rb bb D R l r hl hR).mono ?_
    rintro e w1 ⟨rfl, hG⟩
    exact .inl ⟨_, r, fixN_some hl, by simp [fInt16], hG⟩
def fUInt32 : Nat → Value := fun x => .int .u32 (x : Int)
theorem rwUInt32 (w : World) (base rb bb : Nat) (D R : Option Nat) (d : List UInt8) (hR : RdrOn w base rb bb D R d) : Calls Tryd.prog 45 #[.pointer (some ⟨rb, 0, none⟩)] w (RdStep w base rb bb D R (.int .u32 0) (fixN 4 fUInt32 d)) := by
  by_cases h : d.length < 4
  · refine (uint32_err w base rb bb D R d hR h).mono ?_
    rintro e w1 ⟨v, rfl, hv, hG⟩
    exact .inr ⟨v, [], fixN_none h, rfl, hv, hG⟩
  · obtain ⟨l, r, rfl, hl⟩ := cutN h
    refine (uint32_ok w base rb bb D R l r hl hR).mono ?_
    rintro e w1 ⟨rfl, hG⟩
    exact .inl ⟨_, r, fixN_some hl, by simp [fUInt32], hG⟩
def fInt32 : Nat → Value := fun x => .int .i32 (IntKind.i32.wrap (x : Int))
theorem rwInt32 (w : World) (base rb bb : Nat) (D R : Option Nat) (d : List UInt8) (hR : RdrOn w base rb bb D R d) : Calls Tryd.prog 41 #[.pointer (some ⟨rb, 0, none⟩)] w (RdStep w base rb bb D R (.int .i32 0) (fixN 4 fInt32 d)) := by
  by_cases h : d.length < 4
  · refine (int32_err w base rb bb D R d hR h).mono ?_
    rintro e w1 ⟨v, rfl, hv, hG⟩
    exact .inr ⟨v, [], fixN_none h, rfl, hv, hG⟩
  · obtain ⟨l, r, rfl, hl⟩ := cutN h
    refine (int32_ok w base rb bb D R l r hl hR).mono ?_
    rintro e w1 ⟨rfl, hG⟩
    exact .inl ⟨_, r, fixN_some hl, by simp [fInt32], hG⟩
def fUInt64 : Nat → Value := fun x => .int .u64 (x : Int)
theorem rwUInt64 (w : World) (base rb bb : Nat) (D R : Option Nat) (d : List UInt8) (hR : RdrOn w base rb bb D R d) : Calls Tryd.prog 46 #[.pointer (some ⟨rb, 0, none⟩)] w (RdStep w base rb bb D R (.int .u64 0) (fixN 8 fUInt64 d)) := by
  by_cases h : d.length < 8
  · refine (uint64_err w base rb bb D R d hR h).mono ?_
    rintro e w1 ⟨v, rfl, hv, hG⟩
    exact .inr ⟨v, [], fixN_none h, rfl, hv, hG⟩
  · obtain ⟨l, r, rfl, hl⟩ := cutN h
    refine (uint64_ok w base rb bb D R l r hl hR).mono ?_
    rintro e w1 ⟨rfl, hG⟩
    exact .inl ⟨_, r, fixN_some hl, by simp [fUInt64], hG⟩
def fInt64 : Nat → Value := fun x => .int .i64 (IntKind.i64.wrap (x : Int))
theorem rwInt64 (w : World) (base rb bb : Nat) (D R : Option Nat) (d : List UInt8) (hR : RdrOn w base rb bb D R d) : Calls Tryd.prog 42 #[.pointer (some ⟨rb, 0, none⟩)] w (RdStep w base rb bb D R (.int .i64 0) (fixN 8 fInt64 d)) := by
  by_cases h : d.length < 8
  · refine (int64_err w base rb bb D R d hR h).mono ?_
    rintro e w1 ⟨v, rfl, hv, hG⟩
    exact .inr ⟨v, [], fixN_none h, rfl, hv, hG⟩
  · obtain ⟨l, r, rfl, hl⟩ := cutN h
    refine (int64_ok w base rb bb D R l r hl hR).mono ?_
    rintro e w1 ⟨rfl, hG⟩
    exact .inl ⟨_, r, fixN_some hl, by simp [fInt64], hG⟩
theorem rwByte (w : World) (base rb bb : Nat) (D R : Option Nat) (d : List UInt8) (hR : RdrOn w base rb bb D R d) : Calls Tryd.prog 37 #[.pointer (some ⟨rb, 0, none⟩)] w (RdStep w base rb bb D R (.int .u8 0) (fixN 1 fUInt8 d)) := by
  have HU := Lib.hid (rwUInt8 w base rb bb D R d hR)
  clear hR
  go_enter Tryd.func37, Tryd.ntmps37
  go_wp2_with fail
  refine HU.out.mono ?_
  rintro e w1 (⟨v, l, h0, rfl, hG⟩ | ⟨v, l, h0, rfl, ⟨a, rfl⟩, hG⟩)
  · go_wp2_with fail
    go_ret2
    exact .inl ⟨_, l, h0, rfl, hG⟩
  · go_wp2_with fail
    go_ret2
    exact .inr ⟨_, l, h0, rfl, ⟨_, rfl⟩, hG⟩
/-- A truth value from the front. -/
def fixB (d : List UInt8) : Option (Value × List UInt8) := match d with
  | [] => none
  | b :: l => if b.toNat ≤ 1 then some (.bool (decide (b.toNat = 1)), l) else none
theorem rwBool (w : World) (base rb bb : Nat) (D R : Option Nat) (d : List UInt8) (hR : RdrOn w base rb bb D R d) : Calls Tryd.prog 38 #[.pointer (some ⟨rb, 0, none⟩)] w (RdStep w base rb bb D R (.bool false) (fixB d)) := by
  refine (bool_any w base rb bb D R d hR).mono ?_
  rintro e w1 (⟨b, l, rfl, hb, rfl, hG⟩ | ⟨v, l, hd, rfl, hv, hG⟩)
  · exact .inl ⟨_, l, by rw [fixB, if_pos hb], rfl, hG⟩
  · refine .inr ⟨v, l, ?_, rfl, hv, hG⟩
    rcases hd with rfl | ⟨b, m, rfl, hb⟩
    · rfl
    · rw [fixB, if_neg (by omega)]
/-- A varint from the front. -/
def fixV (f : Nat → Value) (d : List UInt8) : Option (Value × List UInt8) := (uvGo 10 0 0 d).map fun q => (f q.1, q.2)
theorem rwUVarInt (w : World) (base rb bb : Nat) (D R : Option Nat) (d : List UInt8) (hR : RdrOn w base rb bb D R d) : Calls Tryd.prog 80 #[.pointer (some ⟨rb, 0, none⟩)] w (RdStep w base rb bb D R (.int .u64 0) (fixV (fun x => .int .u64 (x : Int)) d)) := by
  refine (uvarint_any w base rb bb D R d hR).mono ?_
  rintro e w1 (⟨x, l, hd, rfl, hG⟩ | ⟨v, l, hd, rfl, hv, hG⟩)
  · exact .inl ⟨_, l, by rw [fixV, hd]; rfl, rfl, hG⟩
  · exact .inr ⟨v, l, by rw [fixV, hd]; rfl, rfl, hv, hG⟩
theorem rwInt (w : World) (base rb bb : Nat) (D R : Option Nat) (d : List UInt8) (hR : RdrOn w base rb bb D R d) : Calls Tryd.prog 81 #[.pointer (some ⟨rb, 0, none⟩)] w (RdStep w base rb bb D R (.int .i64 0) (fixV (fun x => .int .i64 (IntKind.i64.wrap (x : Int))) d)) := by
  have HU := Lib.hid (uvarint_any w base rb bb D R d hR)
  clear hR
  go_enter Tryd.func81, Tryd.ntmps81
  go_wp2_with fail
  refine HU.out.mono ?_
  rintro e w1 (⟨x, l, hd, rfl, hG⟩ | ⟨v, l, hd, rfl, ⟨a, rfl⟩, hG⟩)
  · have hw : IntKind.i64.wrap (x : Int) = wrap64 (x : Int) := by rw [IntKind.wrap_i64, wrap64]
    go_wp2_with fail
    go_ret2
    exact .inl ⟨.int .i64 (IntKind.i64.wrap (x : Int)), l, by rw [fixV, hd]; rfl, by first | rfl | (rw [hw]; rfl) | (simp [hw]; done), hG⟩
  · go_wp2_with (first | (go_at_call 68; go_in))
    go_ret2
    exact .inr ⟨_, l, by rw [fixV, hd]; rfl, rfl, ⟨_, rfl⟩, hG.after ((Keeps.refl (fun _ => False) _).alloc _)⟩
theorem rwStrLen (w : World) (base rb bb : Nat) (D R : Option Nat) (d : List UInt8) (hR : RdrOn w base rb bb D R d) (hx : ∀ x l, uvGo 10 0 0 d = some (x, l) → x ≤ 1000) : Calls Tryd.prog 82 #[.pointer (some ⟨rb, 0, none⟩)] w (RdStep w base rb bb D R (.int .i64 0) (fixV (fun x => .int .i64 (x : Int)) d)) := by
  have HU := Lib.hid (rwInt w base rb bb D R d hR)
  have HX := Lib.hid hx
  clear hR hx
  go_enter Tryd.func82, Tryd.ntmps82
  go_wp2_with fail
  refine HU.out.mono ?_
  rintro e w1 (⟨v, l, hd, rfl, hG⟩ | ⟨v, l, hd, rfl, ⟨a, rfl⟩, hG⟩)
  · obtain ⟨⟨x, l'⟩, h1, h2⟩ := Option.map_eq_some_iff.mp hd
    injection h2 with h2 h3
    subst h2 h3
    have hle := HX.out x l' h1
    have hx1 : IntKind.i64.wrap (x : Int) = (x : Int) := by rw [IntKind.wrap_i64]; omega
    have hx2 : ¬ ((x : Int) < 0) := by omega
    have hx3 : (0 : Int) ≤ (x : Int) := by omega
    simp only [hx1]
    go_wp2_with fail
    go_ret2
    exact .inl ⟨_, l', by rw [fixV, h1]; rfl, rfl, hG⟩
  · have hn : uvGo 10 0 0 d = none := Option.map_eq_none_iff.mp hd
    go_wp2_with (first | (go_at_call 68; go_in))
    go_ret2
    exact .inr ⟨_, l, by rw [fixV, hn]; rfl, rfl, ⟨_, rfl⟩, hG.after ((Keeps.refl (fun _ => False) _).alloc _)⟩
end Go.Proofs.YthfoleapdmpdfaaDoor
