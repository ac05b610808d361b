/- Prim.put of numbers of at most 64 bits, and of varints. Conditions: the buffer is not too long. -/
import Derived.Test.YthfoleapdmpdfaaDoorPrOne
import Derived.Test.YthfoleapdmpdfaaDoorRf
namespace Go.Proofs.YthfoleapdmpdfaaDoor
open Go.RowKit Go.Lib
set_option linter.unusedVariables false
def PutOk (w : World) (base bb : Nat) (A : Option Addr) (l d : List UInt8) (e : Ending) (w' : World) : Prop := ∃ A' c', e = .returned (.tuple #[]) ∧ Put w w' base bb A A' c' (l ++ d)
set_option maxRecDepth 100000 in
set_option maxHeartbeats 2000000 in
theorem pt1 (w : World) (base bb : Nat) (A : Option Addr) (c : Nat) (l : List UInt8) (hB : BufAt w base bb A c l) (hn : l.length < 70368744177664) (u : Nat) (hu : u < 18446744073709551616) (v : Int) (S : Option Addr) (n cs : Nat) :
    Calls Tryd.prog 30 #[.agg #[.int .i64 1, .int .u64 (u : Int), .int .u64 v, .slice S n cs], .pointer (some ⟨bb, 0, none⟩)] w (PutOk w base bb A l ([UInt8.ofNat u])) := by
  have K0 := (Keeps.refl (fun _ => False) w).alloc (.cells #[.int .i64 1, .int .u64 (u : Int), .int .u64 v, .slice S n cs] 28)
  have HP := Lib.hid (putByte _ base bb A c l ((u % 256 : Nat) : Int) (UInt8.ofNat u) (by simp) (hB.keeps K0 (fun h => h) (fun _ _ h => h)) hn)
  have c1 : IntKind.u8.wrap (u : Int) = ((u % 256 : Nat) : Int) := by simp [IntKind.wrap, IntKind.bits, IntKind.signed]
  clear hB
  go_enter Tryd.func30, Tryd.ntmps30
  go_wp2_with (first | (go_at_call 48; go_in))
  refine HP.out.mono ?_
  rintro e w1 ⟨A1, c1, rfl, h1⟩
  go_wp2_with fail
  go_end0
  go_wp2_with fail
  go_end0
  exact ⟨A1, c1, rfl, h1.behind K0⟩
set_option maxRecDepth 100000 in
set_option maxHeartbeats 2000000 in
theorem pt3 (w : World) (base bb : Nat) (A : Option Addr) (c : Nat) (l : List UInt8) (hB : BufAt w base bb A c l) (hn : l.length < 70368744177664) (u : Nat) (hu : u < 18446744073709551616) (v : Int) (S : Option Addr) (n cs : Nat) :
    Calls Tryd.prog 30 #[.agg #[.int .i64 3, .int .u64 (u : Int), .int .u64 v, .slice S n cs], .pointer (some ⟨bb, 0, none⟩)] w (PutOk w base bb A l ([UInt8.ofNat u])) := by
  have K0 := (Keeps.refl (fun _ => False) w).alloc (.cells #[.int .i64 3, .int .u64 (u : Int), .int .u64 v, .slice S n cs] 28)
  have HP := Lib.hid (putByte _ base bb A c l ((u % 256 : Nat) : Int) (UInt8.ofNat u) (by simp) (hB.keeps K0 (fun h => h) (fun _ _ h => h)) hn)
  obtain ⟨z, hz⟩ : ∃ z, z = IntKind.i8.wrap (u : Int) := ⟨_, rfl⟩
  have c2 : IntKind.u8.wrap z = ((u % 256 : Nat) : Int) := by rw [hz]; simp [IntKind.wrap, IntKind.bits, IntKind.signed]; split <;> omega
  have c1 : IntKind.i8.wrap (u : Int) = z := hz.symm
  clear hz
  clear hB
  go_enter Tryd.func30, Tryd.ntmps30
  go_wp2_with (first | (go_at_call 50; go_in))
  refine HP.out.mono ?_
  rintro e w1 ⟨A1, c1, rfl, h1⟩
  go_wp2_with fail
  go_end0
  go_wp2_with fail
  go_end0
  exact ⟨A1, c1, rfl, h1.behind K0⟩
set_option maxRecDepth 100000 in
set_option maxHeartbeats 2000000 in
theorem pt4 (w : World) (base bb : Nat) (A : Option Addr) (c : Nat) (l : List UInt8) (hB : BufAt w base bb A c l) (hn : l.length < 70368744177664) (u : Nat) (hu : u < 18446744073709551616) (v : Int) (S : Option Addr) (n cs : Nat) :
    Calls Tryd.prog 30 #[.agg #[.int .i64 4, .int .u64 (u : Int), .int .u64 v, .slice S n cs], .pointer (some ⟨bb, 0, none⟩)] w (PutOk w base bb A l (leb 2 (u % 65536))) := by
  have K0 := (Keeps.refl (fun _ => False) w).alloc (.cells #[.int .i64 4, .int .u64 (u : Int), .int .u64 v, .slice S n cs] 28)
  have HP := Lib.hid (put16 _ base bb A c l (u % 65536) (hB.keeps K0 (fun h => h) (fun _ _ h => h)) hn)
  obtain ⟨z, hz⟩ : ∃ z, z = IntKind.i16.wrap (u : Int) := ⟨_, rfl⟩
  have c2 : IntKind.u16.wrap z = ((u % 65536 : Nat) : Int) := by rw [hz]; simp [IntKind.wrap, IntKind.bits, IntKind.signed]; split <;> omega
  have c1 : IntKind.i16.wrap (u : Int) = z := hz.symm
  clear hz
  clear hB
  go_enter Tryd.func30, Tryd.ntmps30
  go_wp2_with (first | (go_at_call 51; go_in))
  refine HP.out.mono ?_
  rintro e w1 ⟨A1, c1, rfl, h1⟩
  go_wp2_with fail
  go_end0
  go_wp2_with fail
  go_end0
  exact ⟨A1, c1, rfl, h1.behind K0⟩
set_option maxRecDepth 100000 in
set_option maxHeartbeats 2000000 in
theorem pt5 (w : World) (base bb : Nat) (A : Option Addr) (c : Nat) (l : List UInt8) (hB : BufAt w base bb A c l) (hn : l.length < 70368744177664) (u : Nat) (hu : u < 18446744073709551616) (v : Int) (S : Option Addr) (n cs : Nat) :
    Calls Tryd.prog 30 #[.agg #[.int .i64 5, .int .u64 (u : Int), .int .u64 v, .slice S n cs], .pointer (some ⟨bb, 0, none⟩)] w (PutOk w base bb A l (leb 4 (u % 4294967296))) := by
  have K0 := (Keeps.refl (fun _ => False) w).alloc (.cells #[.int .i64 5, .int .u64 (u : Int), .int .u64 v, .slice S n cs] 28)
  have HP := Lib.hid (put32 _ base bb A c l (u % 4294967296) (hB.keeps K0 (fun h => h) (fun _ _ h => h)) hn)
  obtain ⟨z, hz⟩ : ∃ z, z = IntKind.i32.wrap (u : Int) := ⟨_, rfl⟩
  have c2 : IntKind.u32.wrap z = ((u % 4294967296 : Nat) : Int) := by rw [hz]; simp [IntKind.wrap, IntKind.bits, IntKind.signed]; split <;> omega
  have c1 : IntKind.i32.wrap (u : Int) = z := hz.symm
  clear hz
  clear hB
  go_enter Tryd.func30, Tryd.ntmps30
  go_wp2_with (first | (go_at_call 52; go_in))
  refine HP.out.mono ?_
  rintro e w1 ⟨A1, c1, rfl, h1⟩
  go_wp2_with fail
  go_end0
  go_wp2_with fail
  go_end0
  exact ⟨A1, c1, rfl, h1.behind K0⟩
set_option maxRecDepth 100000 in
set_option maxHeartbeats 2000000 in
theorem pt6 (w : World) (base bb : Nat) (A : Option Addr) (c : Nat) (l : List UInt8) (hB : BufAt w base bb A c l) (hn : l.length < 70368744177664) (u : Nat) (hu : u < 18446744073709551616) (v : Int) (S : Option Addr) (n cs : Nat) :
    Calls Tryd.prog 30 #[.agg #[.int .i64 6, .int .u64 (u : Int), .int .u64 v, .slice S n cs], .pointer (some ⟨bb, 0, none⟩)] w (PutOk w base bb A l (leb 8 (u % 18446744073709551616))) := by
  have K0 := (Keeps.refl (fun _ => False) w).alloc (.cells #[.int .i64 6, .int .u64 (u : Int), .int .u64 v, .slice S n cs] 28)
  have HP := Lib.hid (put64 _ base bb A c l (u % 18446744073709551616) (hB.keeps K0 (fun h => h) (fun _ _ h => h)) hn)
  obtain ⟨z, hz⟩ : ∃ z, z = IntKind.i64.wrap (u : Int) := ⟨_, rfl⟩
  have c2 : IntKind.u64.wrap z = ((u % 18446744073709551616 : Nat) : Int) := by rw [hz]; simp [IntKind.wrap, IntKind.bits, IntKind.signed]; split <;> omega
  have c1 : IntKind.i64.wrap (u : Int) = z := hz.symm
  clear hz
  clear hB
  go_enter Tryd.func30, Tryd.ntmps30
  go_wp2_with (first | (go_at_call 53; go_in))
  refine HP.out.mono ?_
  rintro e w1 ⟨A1, c1, rfl, h1⟩
  go_wp2_with fail
  go_end0
  go_wp2_with fail
  go_end0
  exact ⟨A1, c1, rfl, h1.behind K0⟩
set_option maxRecDepth 100000 in
set_option maxHeartbeats 2000000 in
theorem pt7 (w : World) (base bb : Nat) (A : Option Addr) (c : Nat) (l : List UInt8) (hB : BufAt w base bb A c l) (hn : l.length < 70368744177664) (u : Nat) (hu : u < 18446744073709551616) (v : Int) (S : Option Addr) (n cs : Nat) :
    Calls Tryd.prog 30 #[.agg #[.int .i64 7, .int .u64 (u : Int), .int .u64 v, .slice S n cs], .pointer (some ⟨bb, 0, none⟩)] w (PutOk w base bb A l ([UInt8.ofNat u])) := by
  have K0 := (Keeps.refl (fun _ => False) w).alloc (.cells #[.int .i64 7, .int .u64 (u : Int), .int .u64 v, .slice S n cs] 28)
  have HP := Lib.hid (putByte _ base bb A c l ((u % 256 : Nat) : Int) (UInt8.ofNat u) (by simp) (hB.keeps K0 (fun h => h) (fun _ _ h => h)) hn)
  have c1 : IntKind.u8.wrap (u : Int) = ((u % 256 : Nat) : Int) := by simp [IntKind.wrap, IntKind.bits, IntKind.signed]
  clear hB
  go_enter Tryd.func30, Tryd.ntmps30
  go_wp2_with (fail)
  refine HP.out.mono ?_
  rintro e w1 ⟨A1, c1, rfl, h1⟩
  go_wp2_with fail
  go_end0
  exact ⟨A1, c1, rfl, h1.behind K0⟩
set_option maxRecDepth 100000 in
set_option maxHeartbeats 2000000 in
theorem pt8 (w : World) (base bb : Nat) (A : Option Addr) (c : Nat) (l : List UInt8) (hB : BufAt w base bb A c l) (hn : l.length < 70368744177664) (u : Nat) (hu : u < 18446744073709551616) (v : Int) (S : Option Addr) (n cs : Nat) :
    Calls Tryd.prog 30 #[.agg #[.int .i64 8, .int .u64 (u : Int), .int .u64 v, .slice S n cs], .pointer (some ⟨bb, 0, none⟩)] w (PutOk w base bb A l (leb 2 (u % 65536))) := by
  have K0 := (Keeps.refl (fun _ => False) w).alloc (.cells #[.int .i64 8, .int .u64 (u : Int), .int .u64 v, .slice S n cs] 28)
  have HP := Lib.hid (put16 _ base bb A c l (u % 65536) (hB.keeps K0 (fun h => h) (fun _ _ h => h)) hn)
  have c1 : IntKind.u16.wrap (u : Int) = ((u % 65536 : Nat) : Int) := by simp [IntKind.wrap, IntKind.bits, IntKind.signed]
  clear hB
  go_enter Tryd.func30, Tryd.ntmps30
  go_wp2_with (fail)
  refine HP.out.mono ?_
  rintro e w1 ⟨A1, c1, rfl, h1⟩
  go_wp2_with fail
  go_end0
  exact ⟨A1, c1, rfl, h1.behind K0⟩
set_option maxRecDepth 100000 in
set_option maxHeartbeats 2000000 in
theorem pt9 (w : World) (base bb : Nat) (A : Option Addr) (c : Nat) (l : List UInt8) (hB : BufAt w base bb A c l) (hn : l.length < 70368744177664) (u : Nat) (hu : u < 18446744073709551616) (v : Int) (S : Option Addr) (n cs : Nat) :
    Calls Tryd.prog 30 #[.agg #[.int .i64 9, .int .u64 (u : Int), .int .u64 v, .slice S n cs], .pointer (some ⟨bb, 0, none⟩)] w (PutOk w base bb A l (leb 4 (u % 4294967296))) := by
  have K0 := (Keeps.refl (fun _ => False) w).alloc (.cells #[.int .i64 9, .int .u64 (u : Int), .int .u64 v, .slice S n cs] 28)
  have HP := Lib.hid (put32 _ base bb A c l (u % 4294967296) (hB.keeps K0 (fun h => h) (fun _ _ h => h)) hn)
  have c1 : IntKind.u32.wrap (u : Int) = ((u % 4294967296 : Nat) : Int) := by simp [IntKind.wrap, IntKind.bits, IntKind.signed]
  clear hB
  go_enter Tryd.func30, Tryd.ntmps30
  go_wp2_with (fail)
  refine HP.out.mono ?_
  rintro e w1 ⟨A1, c1, rfl, h1⟩
  go_wp2_with fail
  go_end0
  exact ⟨A1, c1, rfl, h1.behind K0⟩
set_option maxRecDepth 100000 in
set_option maxHeartbeats 2000000 in
theorem pt10 (w : World) (base bb : Nat) (A : Option Addr) (c : Nat) (l : List UInt8) (hB : BufAt w base bb A c l) (hn : l.length < 70368744177664) (u : Nat) (hu : u < 18446744073709551616) (v : Int) (S : Option Addr) (n cs : Nat) :
    Calls Tryd.prog 30 #[.agg #[.int .i64 10, .int .u64 (u : Int), .int .u64 v, .slice S n cs], .pointer (some ⟨bb, 0, none⟩)] w (PutOk w base bb A l (leb 8 u)) := by
  have K0 := (Keeps.refl (fun _ => False) w).alloc (.cells #[.int .i64 10, .int .u64 (u : Int), .int .u64 v, .slice S n cs] 28)
  have HP := Lib.hid (put64 _ base bb A c l u (hB.keeps K0 (fun h => h) (fun _ _ h => h)) hn)
  clear hB
  go_enter Tryd.func30, Tryd.ntmps30
  go_wp2_with (fail)
  refine HP.out.mono ?_
  rintro e w1 ⟨A1, c1, rfl, h1⟩
  go_wp2_with fail
  go_end0
  exact ⟨A1, c1, rfl, h1.behind K0⟩
set_option maxRecDepth 100000 in
set_option maxHeartbeats 2000000 in
theorem pt11 (w : World) (base bb : Nat) (A : Option Addr) (c : Nat) (l : List UInt8) (hB : BufAt w base bb A c l) (hn : l.length < 70368744177664) (u : Nat) (hu : u < 18446744073709551616) (v : Int) (S : Option Addr) (n cs : Nat) :
    Calls Tryd.prog 30 #[.agg #[.int .i64 11, .int .u64 (u : Int), .int .u64 v, .slice S n cs], .pointer (some ⟨bb, 0, none⟩)] w (PutOk w base bb A l (leb 4 (u % 4294967296))) := by
  have K0 := (Keeps.refl (fun _ => False) w).alloc (.cells #[.int .i64 11, .int .u64 (u : Int), .int .u64 v, .slice S n cs] 28)
  have HP := Lib.hid (put32 _ base bb A c l (u % 4294967296) (hB.keeps K0 (fun h => h) (fun _ _ h => h)) hn)
  have c1 : IntKind.u32.wrap (u : Int) = ((u % 4294967296 : Nat) : Int) := by simp [IntKind.wrap, IntKind.bits, IntKind.signed]
  have hx := ext32f
  have hy := ext32b
  have hz : ((u % 4294967296 : Nat) : Int).toNat = u % 4294967296 := Int.toNat_natCast _
  clear hB
  go_enter Tryd.func30, Tryd.ntmps30
  go_wp2_with (first | (go_at_call 58; go_in))
  refine HP.out.mono ?_
  rintro e w1 ⟨A1, c1, rfl, h1⟩
  go_wp2_with fail
  go_end0
  go_wp2_with fail
  go_end0
  exact ⟨A1, c1, rfl, h1.behind K0⟩
set_option maxRecDepth 100000 in
set_option maxHeartbeats 2000000 in
theorem pt12 (w : World) (base bb : Nat) (A : Option Addr) (c : Nat) (l : List UInt8) (hB : BufAt w base bb A c l) (hn : l.length < 70368744177664) (u : Nat) (hu : u < 18446744073709551616) (v : Int) (S : Option Addr) (n cs : Nat) :
    Calls Tryd.prog 30 #[.agg #[.int .i64 12, .int .u64 (u : Int), .int .u64 v, .slice S n cs], .pointer (some ⟨bb, 0, none⟩)] w (PutOk w base bb A l (leb 8 u)) := by
  have K0 := (Keeps.refl (fun _ => False) w).alloc (.cells #[.int .i64 12, .int .u64 (u : Int), .int .u64 v, .slice S n cs] 28)
  have HP := Lib.hid (put64 _ base bb A c l u (hB.keeps K0 (fun h => h) (fun _ _ h => h)) hn)
  have hx := ext64f
  have hy := ext64b
  clear hB
  go_enter Tryd.func30, Tryd.ntmps30
  go_wp2_with (first | (go_at_call 60; go_in))
  refine HP.out.mono ?_
  rintro e w1 ⟨A1, c1, rfl, h1⟩
  go_wp2_with fail
  go_end0
  go_wp2_with fail
  go_end0
  exact ⟨A1, c1, rfl, h1.behind K0⟩
set_option maxRecDepth 100000 in
set_option maxHeartbeats 2000000 in
theorem pt15 (w : World) (base bb : Nat) (A : Option Addr) (c : Nat) (l : List UInt8) (hB : BufAt w base bb A c l) (hn : l.length < 70368744177664) (u : Nat) (hu : u < 18446744073709551616) (v : Int) (S : Option Addr) (n cs : Nat) :
    Calls Tryd.prog 30 #[.agg #[.int .i64 15, .int .u64 (u : Int), .int .u64 v, .slice S n cs], .pointer (some ⟨bb, 0, none⟩)] w (PutOk w base bb A l (Lib.uvarint u)) := by
  have K0 := (Keeps.refl (fun _ => False) w).alloc (.cells #[.int .i64 15, .int .u64 (u : Int), .int .u64 v, .slice S n cs] 28)
  have HP := Lib.hid (putUv _ base bb A c l u (hB.keeps K0 (fun h => h) (fun _ _ h => h)) hn hu)
  clear hB
  go_enter Tryd.func30, Tryd.ntmps30
  go_wp2_with (fail)
  refine HP.out.mono ?_
  rintro e w1 ⟨A1, c1, rfl, h1⟩
  go_wp2_with fail
  go_end0
  exact ⟨A1, c1, rfl, h1.behind K0⟩
set_option maxRecDepth 100000 in
set_option maxHeartbeats 2000000 in
theorem pt16 (w : World) (base bb : Nat) (A : Option Addr) (c : Nat) (l : List UInt8) (hB : BufAt w base bb A c l) (hn : l.length < 70368744177664) (u : Nat) (hu : u < 18446744073709551616) (v : Int) (S : Option Addr) (n cs : Nat) (h63 : u < 9223372036854775808) :
    Calls Tryd.prog 30 #[.agg #[.int .i64 16, .int .u64 (u : Int), .int .u64 v, .slice S n cs], .pointer (some ⟨bb, 0, none⟩)] w (PutOk w base bb A l (Lib.uvarint u)) := by
  have K0 := (Keeps.refl (fun _ => False) w).alloc (.cells #[.int .i64 16, .int .u64 (u : Int), .int .u64 v, .slice S n cs] 28)
  have HP := Lib.hid (putUv _ base bb A c l u (hB.keeps K0 (fun h => h) (fun _ _ h => h)) hn hu)
  have c1 : IntKind.i64.wrap (u : Int) = (u : Int) := by rw [IntKind.wrap_i64]; omega
  have c2 : IntKind.u64.wrap (u : Int) = (u : Int) := by rw [IntKind.wrap_u64]; omega
  clear hB
  go_enter Tryd.func30, Tryd.ntmps30
  go_wp2_with (first | (go_at_call 65; go_in))
  refine HP.out.mono ?_
  rintro e w1 ⟨A1, c1, rfl, h1⟩
  go_wp2_with fail
  go_end0
  go_wp2_with fail
  go_end0
  exact ⟨A1, c1, rfl, h1.behind K0⟩
set_option maxRecDepth 100000 in
set_option maxHeartbeats 2000000 in
theorem pt17 (w : World) (base bb : Nat) (A : Option Addr) (c : Nat) (l : List UInt8) (hB : BufAt w base bb A c l) (hn : l.length < 70368744177664) (u : Nat) (hu : u < 18446744073709551616) (v : Int) (S : Option Addr) (n cs : Nat) (h63 : u < 9223372036854775808) :
    Calls Tryd.prog 30 #[.agg #[.int .i64 17, .int .u64 (u : Int), .int .u64 v, .slice S n cs], .pointer (some ⟨bb, 0, none⟩)] w (PutOk w base bb A l (Lib.uvarint u)) := by
  have K0 := (Keeps.refl (fun _ => False) w).alloc (.cells #[.int .i64 17, .int .u64 (u : Int), .int .u64 v, .slice S n cs] 28)
  have HP := Lib.hid (putUv _ base bb A c l u (hB.keeps K0 (fun h => h) (fun _ _ h => h)) hn hu)
  have c1 : IntKind.i64.wrap (u : Int) = (u : Int) := by rw [IntKind.wrap_i64]; omega
  have c2 : IntKind.u64.wrap (u : Int) = (u : Int) := by rw [IntKind.wrap_u64]; omega
  clear hB
  go_enter Tryd.func30, Tryd.ntmps30
  go_wp2_with (first | (go_at_call 66; go_in))
  refine HP.out.mono ?_
  rintro e w1 ⟨A1, c1, rfl, h1⟩
  go_wp2_with fail
  go_end0
  go_wp2_with fail
  go_end0
  exact ⟨A1, c1, rfl, h1.behind K0⟩
end Go.Proofs.YthfoleapdmpdfaaDoor
