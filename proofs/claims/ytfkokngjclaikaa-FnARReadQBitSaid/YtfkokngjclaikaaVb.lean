/- Vectors: halves of floats, the bits of a vector's elements. Conditions: numbers of 32 bits; those of 64 bits are finite. -/
import Derived.Test.YtfkokngjclaikaaVa
import Derived.Test.YtfkokngjclaikaaNm
import Derived.Deep.LoopGhost
import Derived.Deep.CutRange
import Derived.Laws.Bits64b
namespace Go.Proofs.Ytfkokngjclaikaa
open Go.RowKit Go.Lib
set_option linter.unusedVariables false
theorem vx32f (n : Int) (w : World) : (callFunc 27 #[.int .u32 n]).run Try.prog w = .ok (.value (.float .f32 n.toNat)) w := by
  rw [run_callFunc_extern (e := Extern.MathFloatBits.float32frombits) Try.func27 (by kernel_rfl) (by kernel_rfl) (by kernel_rfl) (by kernel_rfl)]
  rfl
theorem vx32b (n : Nat) (w : World) : (callFunc 19 #[.float .f32 n]).run Try.prog w = .ok (.value (.int .u32 n)) w := by
  rw [run_callFunc_extern (e := Extern.MathFloatBits.float32bits) Try.func19 (by kernel_rfl) (by kernel_rfl) (by kernel_rfl) (by kernel_rfl)]
  rfl
theorem vx64f (n : Int) (w : World) : (callFunc 28 #[.int .u64 n]).run Try.prog w = .ok (.value (.float .f64 n.toNat)) w := by
  rw [run_callFunc_extern (e := Extern.MathFloatBits.float64frombits) Try.func28 (by kernel_rfl) (by kernel_rfl) (by kernel_rfl) (by kernel_rfl)]
  rfl
theorem vx64b (n : Nat) (w : World) : (callFunc 29 #[.float .f64 n]).run Try.prog w = .ok (.value (.int .u64 n)) w := by
  rw [run_callFunc_extern (e := Extern.MathFloatBits.float64bits) Try.func29 (by kernel_rfl) (by kernel_rfl) (by kernel_rfl) (by kernel_rfl)]
  rfl
theorem band_u8 (a b : Nat) (ha : a < 256) (hb : b < 256) : Go.bits .and .u8 (a : Int) (b : Int) = ((a &&& b : Nat) : Int) := by
  have hx : a &&& b < 2 ^ 8 := Nat.and_lt_two_pow _ (by omega)
  have h1 : (BitVec.ofInt 8 (a : Int)).toNat = a := by
    rw [BitVec.ofInt_natCast, BitVec.toNat_ofNat]; exact Nat.mod_eq_of_lt (by omega)
  have h2 : (BitVec.ofInt 8 (b : Int)).toNat = b := by
    rw [BitVec.ofInt_natCast, BitVec.toNat_ofNat]; exact Nat.mod_eq_of_lt (by omega)
  show IntKind.u8.wrap ((BitVec.ofInt 8 (a : Int) &&& BitVec.ofInt 8 (b : Int)).toNat : Int) = _
  rw [BitVec.toNat_and, h1, h2, IntKind.wrap_u8]
  omega
theorem bor_u8 (a b : Nat) (ha : a < 256) (hb : b < 256) : Go.bits .or .u8 (a : Int) (b : Int) = ((a ||| b : Nat) : Int) := by
  have hx : a ||| b < 2 ^ 8 := Nat.or_lt_two_pow (by omega) (by omega)
  have h1 : (BitVec.ofInt 8 (a : Int)).toNat = a := by
    rw [BitVec.ofInt_natCast, BitVec.toNat_ofNat]; exact Nat.mod_eq_of_lt (by omega)
  have h2 : (BitVec.ofInt 8 (b : Int)).toNat = b := by
    rw [BitVec.ofInt_natCast, BitVec.toNat_ofNat]; exact Nat.mod_eq_of_lt (by omega)
  show IntKind.u8.wrap ((BitVec.ofInt 8 (a : Int) ||| BitVec.ofInt 8 (b : Int)).toNat : Int) = _
  rw [BitVec.toNat_or, h1, h2, IntKind.wrap_u8]
  omega
theorem band_u16 (a b : Nat) (ha : a < 65536) (hb : b < 65536) : Go.bits .and .u16 (a : Int) (b : Int) = ((a &&& b : Nat) : Int) := by
  have hx : a &&& b < 2 ^ 16 := Nat.and_lt_two_pow _ (by omega)
  have h1 : (BitVec.ofInt 16 (a : Int)).toNat = a := by
    rw [BitVec.ofInt_natCast, BitVec.toNat_ofNat]; exact Nat.mod_eq_of_lt (by omega)
  have h2 : (BitVec.ofInt 16 (b : Int)).toNat = b := by
    rw [BitVec.ofInt_natCast, BitVec.toNat_ofNat]; exact Nat.mod_eq_of_lt (by omega)
  show IntKind.u16.wrap ((BitVec.ofInt 16 (a : Int) &&& BitVec.ofInt 16 (b : Int)).toNat : Int) = _
  rw [BitVec.toNat_and, h1, h2, IntKind.wrap_u16]
  omega
theorem bor_u16 (a b : Nat) (ha : a < 65536) (hb : b < 65536) : Go.bits .or .u16 (a : Int) (b : Int) = ((a ||| b : Nat) : Int) := by
  have hx : a ||| b < 2 ^ 16 := Nat.or_lt_two_pow (by omega) (by omega)
  have h1 : (BitVec.ofInt 16 (a : Int)).toNat = a := by
    rw [BitVec.ofInt_natCast, BitVec.toNat_ofNat]; exact Nat.mod_eq_of_lt (by omega)
  have h2 : (BitVec.ofInt 16 (b : Int)).toNat = b := by
    rw [BitVec.ofInt_natCast, BitVec.toNat_ofNat]; exact Nat.mod_eq_of_lt (by omega)
  show IntKind.u16.wrap ((BitVec.ofInt 16 (a : Int) ||| BitVec.ofInt 16 (b : Int)).toNat : Int) = _
  rw [BitVec.toNat_or, h1, h2, IntKind.wrap_u16]
  omega
theorem band_u32 (a b : Nat) (ha : a < 4294967296) (hb : b < 4294967296) : Go.bits .and .u32 (a : Int) (b : Int) = ((a &&& b : Nat) : Int) := by
  have hx : a &&& b < 2 ^ 32 := Nat.and_lt_two_pow _ (by omega)
  have h1 : (BitVec.ofInt 32 (a : Int)).toNat = a := by
    rw [BitVec.ofInt_natCast, BitVec.toNat_ofNat]; exact Nat.mod_eq_of_lt (by omega)
  have h2 : (BitVec.ofInt 32 (b : Int)).toNat = b := by
    rw [BitVec.ofInt_natCast, BitVec.toNat_ofNat]; exact Nat.mod_eq_of_lt (by omega)
  show IntKind.u32.wrap ((BitVec.ofInt 32 (a : Int) &&& BitVec.ofInt 32 (b : Int)).toNat : Int) = _
  rw [BitVec.toNat_and, h1, h2, IntKind.wrap_u32]
  omega
theorem bor_u32 (a b : Nat) (ha : a < 4294967296) (hb : b < 4294967296) : Go.bits .or .u32 (a : Int) (b : Int) = ((a ||| b : Nat) : Int) := by
  have hx : a ||| b < 2 ^ 32 := Nat.or_lt_two_pow (by omega) (by omega)
  have h1 : (BitVec.ofInt 32 (a : Int)).toNat = a := by
    rw [BitVec.ofInt_natCast, BitVec.toNat_ofNat]; exact Nat.mod_eq_of_lt (by omega)
  have h2 : (BitVec.ofInt 32 (b : Int)).toNat = b := by
    rw [BitVec.ofInt_natCast, BitVec.toNat_ofNat]; exact Nat.mod_eq_of_lt (by omega)
  show IntKind.u32.wrap ((BitVec.ofInt 32 (a : Int) ||| BitVec.ofInt 32 (b : Int)).toNat : Int) = _
  rw [BitVec.toNat_or, h1, h2, IntKind.wrap_u32]
  omega
theorem and_one (x : Nat) : x &&& 1 = x % 2 := Nat.and_two_pow_sub_one_eq_mod x 1
/-- The names of the three types of elements, by number. -/
def eName (e : Nat) : ByteArray := if e = 0 then ⟨#[66, 70, 108, 111, 97, 116, 49, 54]⟩ else if e = 1 then ⟨#[70, 108, 111, 97, 116, 51, 50]⟩ else ⟨#[70, 108, 111, 97, 116, 54, 52]⟩
def eW (e : Nat) : Nat := if e = 0 then 16 else if e = 1 then 32 else 64
def half (x : Nat) : Nat := if 32768 < x % 65536 ∨ (x % 65536 = 32768 ∧ x / 65536 % 2 = 1) then (x / 65536 % 65536 + 1) % 65536 else x / 65536 % 65536
def eBits (e x : Nat) : Nat := if e = 0 then half x else if e = 1 then x else (floatToFloatBits .f32 x .f64).getD 0
/-- What is read again. -/
def eOut (e x : Nat) : Nat := if e = 0 then half x * 65536 else x
/-- A number of 32 bits that is finite as a float. -/
def Fin32 (x : Nat) : Prop := x < 4294967296 ∧ x / 8388608 % 256 < 255
theorem half_lt (x : Nat) : half x < 65536 := by unfold half; split <;> omega
theorem eBits_lt {e x : Nat} (he : e < 3) (h : Fin32 x) : eBits e x < 2 ^ eW e := by
  have h3 : e = 0 ∨ e = 1 ∨ e = 2 := by omega
  rcases h3 with rfl | rfl | rfl
  · exact half_lt x
  · exact h.1
  · obtain ⟨r, h1, h2, _⟩ := widen_narrow x h.1 h.2
    show (floatToFloatBits .f32 x .f64).getD 0 < _
    rw [h1]
    exact h2
set_option maxRecDepth 100000 in
set_option maxHeartbeats 1000000 in
theorem arHalf (w : World) (x : Nat) (hx : x < 4294967296) : Calls Try.prog 10 #[.int .u32 (x : Int)] w fun e w' => e = .returned (.int .u16 (half x : Int)) ∧ w = w' := by
  have c1 : IntKind.u16.wrap ((x : Int) / 65536) = ((x / 65536 % 65536 : Nat) : Int) := by rw [IntKind.wrap_u16]; omega
  have b1 : Go.bits .and .u32 (x : Int) 65535 = ((x % 65536 : Nat) : Int) := by
    have h := band_u32 x 65535 hx (by omega)
    rw [show x &&& 65535 = x % 65536 from Nat.and_two_pow_sub_one_eq_mod x 16] at h
    exact h
  have b2 : Go.bits .and .u16 ((x / 65536 % 65536 : Nat) : Int) 1 = ((x / 65536 % 2 : Nat) : Int) := by
    have h := band_u16 (x / 65536 % 65536) 1 (by omega) (by omega)
    rw [and_one, show x / 65536 % 65536 % 2 = x / 65536 % 2 by omega] at h
    exact h
  obtain ⟨u, hu⟩ : ∃ u, x / 65536 % 65536 = u := ⟨_, rfl⟩
  obtain ⟨r, hr⟩ : ∃ r, x % 65536 = r := ⟨_, rfl⟩
  obtain ⟨o, ho⟩ : ∃ o, x / 65536 % 2 = o := ⟨_, rfl⟩
  have hh : half x = if 32768 < r ∨ (r = 32768 ∧ o = 1) then (u + 1) % 65536 else u := by rw [half, hu, hr, ho]
  rw [hu] at c1 b2
  rw [hr] at b1
  rw [ho] at b2
  have hu6 : u < 65536 := by omega
  have w1 : IntKind.u16.wrap ((u : Int) + 1) = (((u + 1) % 65536 : Nat) : Int) := by rw [IntKind.wrap_u16]; omega
  rw [hh]
  clear hu hr ho hh
  by_cases h1 : 32768 < r
  · rw [if_pos (.inl h1)]
    have d1 : decide ((32768 : Int) < (r : Int)) = true := by simp; omega
    go_enter Try.func10, Try.ntmps10
    go_wp2_with fail
    go_ret
    exact ⟨rfl, rfl⟩
  · by_cases h2 : r = 32768
    · subst h2
      by_cases h3 : o = 1
      · subst h3
        rw [if_pos (.inr ⟨rfl, rfl⟩)]
        go_enter Try.func10, Try.ntmps10
        go_wp2_with fail
        go_ret
        exact ⟨rfl, rfl⟩
      · rw [if_neg (by omega)]
        have d3 : ((o : Int) == 1) = false := by simp; omega
        go_enter Try.func10, Try.ntmps10
        go_wp2_with fail
        go_ret
        exact ⟨rfl, rfl⟩
    · rw [if_neg (by omega)]
      have d1 : decide ((32768 : Int) < (r : Int)) = false := by simp; omega
      have d2 : ((r : Int) == 32768) = false := by simp; omega
      go_enter Try.func10, Try.ntmps10
      go_wp2_with fail
      go_ret
      exact ⟨rfl, rfl⟩
theorem bfloatBack (w : World) (x : Nat) (hx : x < 65536) : Calls Try.prog 26 #[.int .u16 (x : Int)] w fun e w' => e = .returned (.float .f32 (x * 65536)) ∧ w = w' := by
  have c1 : IntKind.u32.wrap (x : Int) = (x : Int) := by rw [IntKind.wrap_u32]; omega
  have c2 : IntKind.u32.wrap ((x : Int) * 65536) = ((x * 65536 : Nat) : Int) := by rw [IntKind.wrap_u32]; omega
  have hext := vx32f ((x * 65536 : Nat) : Int)
  rw [Int.toNat_natCast] at hext
  generalize x * 65536 = y at *
  go_enter Try.func26, Try.ntmps26
  go_wp2_with fail
  go_ret
  exact ⟨rfl, rfl⟩
/-- Numbers of 64 bits, as values. -/
def qv (xs : List Nat) : List Value := xs.map fun x : Nat => .int .u64 (x : Int)
theorem qv_app (a b : List Nat) : qv (a ++ b) = qv a ++ qv b := by simp [qv]
theorem qv_one (xs : List Nat) : ∀ u ∈ qv xs, u.oneCell' = true := by
  intro u hu
  obtain ⟨x, _, rfl⟩ := List.mem_map.mp hu
  rfl
theorem infoQ : (Try.prog.info? 61).map (fun i => (i.zero, i.size, i.bytes)) = some (some (.int .u64 0), 1, 8) := by kernel_rfl
theorem rd_cell (w : World) (t : TypeId) (v : Value) : Rd (w.alloc (.cells #[v] t)) 1 (some ⟨w.heap.size, 0, none⟩) 1 [v] := by
  refine ⟨rfl, fun _ => ⟨_, rfl, by simp, fun j u hu => ?_⟩⟩
  rw [add_lit', Nat.zero_add, (Whole.new w t #[v]).cell j, ← hu]
  simp
theorem own_grow {w w1 : World} {base n : Nat} {A : Option Addr} {c : Nat} {t : TypeId} {xs : List Value} (h : w.ownsRow base t 1 (.slice A n c) n xs) (o : Obj) : (w.alloc o).ownsRow base t 1 (.slice A n c) n xs := own_keeps h ((Keeps.refl (fun _ => False) w).alloc o) (fun _ _ h => h)
set_option maxRecDepth 100000 in
set_option maxHeartbeats 2000000 in
theorem arPlanes0 (w : World) (A : Option Addr) (n c : Nat) (xs : List Nat) (hl : xs.length = n) (hR : Rd w 1 A n (nv xs)) (hn : n ≤ 100000) (hx : ∀ x ∈ xs, Fin32 x) :
    Calls Try.prog 21 #[.string (eName 0), .slice A n c] w fun e w' => ∃ B cB, e = .returned (.tuple #[.slice B n cB, .int .i64 16]) ∧ w'.ownsRow w.heap.size 61 1 (.slice B n cB) n (qv (xs.map (eBits 0))) ∧ Keeps (fun _ => False) w w' := by
  obtain ⟨i0, hi0, hz0, hz1, hz2⟩ := info_parts infoQ
  have HL := Lib.hid hl
  have HR := Lib.hid hR
  clear hl hR
  rw [show eName 0 = ⟨#[66, 70, 108, 111, 97, 116, 49, 54]⟩ from rfl]
  go_enter Try.func21, Try.ntmps21
  go_wp2_with fail
  go_loopw [6, 8] (fun b i wr => ∃ (k : Nat) (B : Option Addr) (cB : Nat), k ≤ n ∧ b = .slice B k cB ∧ i = .int .i64 k ∧ wr.ownsRow w.heap.size 61 1 (.slice B k cB) k (qv ((xs.take k).map (eBits 0))) ∧ Hid (Keeps (fun _ => False) w wr)) (fun _ i _ => n - (RowKit.intOf i).toNat)
  case atStart => exact ⟨0, none, 0, Nat.zero_le _, rfl, rfl, World.ownsRow_nil _ _ _ _, Lib.hid (Keeps.refl _ _)⟩
  case round =>
    obtain ⟨k, B, cB, hk, rfl, rfl, hown, HK⟩ := hrel
    by_cases hlt : k < n
    · obtain ⟨x, hxk⟩ : ∃ x, xs[k]? = some x := ⟨_, List.getElem?_eq_getElem (by rw [HL.out]; exact hlt)⟩
      have hxm := List.mem_of_getElem? hxk
      obtain ⟨ad, u, rfl, hb, hu, hc⟩ := (HR.out.keeps HK.out (fun _ _ h => h)).at' hlt
      obtain rfl : u = .int .u32 (x : Int) := by
        rw [nv, List.getElem?_map, hxk] at hu
        injection hu with hu
        exact hu.symm
      have HH := Lib.hid (arHalf wr x (hx x hxm).1)
      have cv : IntKind.u64.wrap ((half x : Nat) : Int) = ((half x : Nat) : Int) := by have := half_lt x; rw [IntKind.wrap_u64]; omega
      have HX := Lib.hid (show eBits 0 x = half x from rfl)
      have HT := Lib.hid (show qv ((xs.take (k + 1)).map (eBits 0)) = qv ((xs.take k).map (eBits 0)) ++ [.int .u64 ((eBits 0 x : Nat) : Int)] by rw [List.take_add_one, hxk, List.map_append, qv_app]; rfl)
      have HOWN := Lib.hid hown
      clear hxk hxm hu hown
      go_wp2_with fail
      refine HH.out.mono ?_
      rintro e w1 ⟨rfl, rfl⟩
      go_wp2_with (at_builtin
                   refine wpList_append_rd _ rfl (.tmp 26) (.tmp 33) _ rfl w.heap.size 61 i0 _ 1 8 Try.underlying58 hi0 hz0 hz1 hz2 rfl Nat.one_pos B cB k _ rfl (own_grow (w1 := wr) HOWN.out _) (some ⟨wr.heap.size, 0, none⟩) 1 1 [.int .u64 ((half x : Nat) : Int)] rfl (rd_cell _ _ _) (by intro u hu; rw [List.mem_singleton.1 hu]; rfl) (by simp only [maxLen]; omega) (by omega) (by have := HK.out.size; simp; omega) ?_
                   intro B2 c2 w2 hown2 hg2 hat2)
      have hK2 := (HK.out.alloc (.cells #[.int .u64 ((half x : Nat) : Int)] 61)).grown hg2 (fun i hi => .inr (HOWN.out.lt i (by rw [ownBlock_slice]; exact hi)).1)
      rw [← HX.out, ← HT.out] at hown2
      have HOWN2 := Lib.hid hown2
      have HK2 := Lib.hid hK2
      clear hown2 hK2 hg2 hat2
      go_wp2_with fail
      go_roundw
      case rel => exact ⟨k + 1, B2, c2, by omega, rfl, by go_num, HOWN2.out, HK2⟩
      case measure => (first | (simp [RowKit.intOf]; done) | (simp [RowKit.intOf]; omega))
    · have hkn : k = n := by omega
      subst hkn
      rw [List.take_of_length_le (show xs.length ≤ k by rw [HL.out]; exact Nat.le_refl _)] at hown
      have HOWN := Lib.hid hown
      clear hown
      go_wp2_with fail
      go_ret2
      exact ⟨B, cB, rfl, HOWN.out, HK.out⟩
set_option maxRecDepth 100000 in
set_option maxHeartbeats 2000000 in
theorem arPlanes1 (w : World) (A : Option Addr) (n c : Nat) (xs : List Nat) (hl : xs.length = n) (hR : Rd w 1 A n (nv xs)) (hn : n ≤ 100000) (hx : ∀ x ∈ xs, Fin32 x) :
    Calls Try.prog 21 #[.string (eName 1), .slice A n c] w fun e w' => ∃ B cB, e = .returned (.tuple #[.slice B n cB, .int .i64 32]) ∧ w'.ownsRow w.heap.size 61 1 (.slice B n cB) n (qv (xs.map (eBits 1))) ∧ Keeps (fun _ => False) w w' := by
  obtain ⟨i0, hi0, hz0, hz1, hz2⟩ := info_parts infoQ
  have HL := Lib.hid hl
  have HR := Lib.hid hR
  clear hl hR
  rw [show eName 1 = ⟨#[70, 108, 111, 97, 116, 51, 50]⟩ from rfl]
  go_enter Try.func21, Try.ntmps21
  go_wp2_with fail
  go_loopw [6, 8] (fun b i wr => ∃ (k : Nat) (B : Option Addr) (cB : Nat), k ≤ n ∧ b = .slice B k cB ∧ i = .int .i64 k ∧ wr.ownsRow w.heap.size 61 1 (.slice B k cB) k (qv ((xs.take k).map (eBits 1))) ∧ Hid (Keeps (fun _ => False) w wr)) (fun _ i _ => n - (RowKit.intOf i).toNat)
  case atStart => exact ⟨0, none, 0, Nat.zero_le _, rfl, rfl, World.ownsRow_nil _ _ _ _, Lib.hid (Keeps.refl _ _)⟩
  case round =>
    obtain ⟨k, B, cB, hk, rfl, rfl, hown, HK⟩ := hrel
    by_cases hlt : k < n
    · obtain ⟨x, hxk⟩ : ∃ x, xs[k]? = some x := ⟨_, List.getElem?_eq_getElem (by rw [HL.out]; exact hlt)⟩
      have hxm := List.mem_of_getElem? hxk
      obtain ⟨ad, u, rfl, hb, hu, hc⟩ := (HR.out.keeps HK.out (fun _ _ h => h)).at' hlt
      obtain rfl : u = .int .u32 (x : Int) := by
        rw [nv, List.getElem?_map, hxk] at hu
        injection hu with hu
        exact hu.symm
      have cv : IntKind.u64.wrap (x : Int) = (x : Int) := by have := (hx x hxm).1; rw [IntKind.wrap_u64]; omega
      have HX := Lib.hid (show eBits 1 x = x from rfl)
      have HT := Lib.hid (show qv ((xs.take (k + 1)).map (eBits 1)) = qv ((xs.take k).map (eBits 1)) ++ [.int .u64 ((eBits 1 x : Nat) : Int)] by rw [List.take_add_one, hxk, List.map_append, qv_app]; rfl)
      have HOWN := Lib.hid hown
      clear hxk hxm hu hown
      go_wp2_with (at_builtin
                   refine wpList_append_rd _ rfl (.tmp 16) (.tmp 22) _ rfl w.heap.size 61 i0 _ 1 8 Try.underlying58 hi0 hz0 hz1 hz2 rfl Nat.one_pos B cB k _ rfl (own_grow (w1 := wr) HOWN.out _) (some ⟨wr.heap.size, 0, none⟩) 1 1 [.int .u64 ((x : Nat) : Int)] rfl (rd_cell _ _ _) (by intro u hu; rw [List.mem_singleton.1 hu]; rfl) (by simp only [maxLen]; omega) (by omega) (by have := HK.out.size; simp; omega) ?_
                   intro B2 c2 w2 hown2 hg2 hat2)
      have hK2 := (HK.out.alloc (.cells #[.int .u64 ((x : Nat) : Int)] 61)).grown hg2 (fun i hi => .inr (HOWN.out.lt i (by rw [ownBlock_slice]; exact hi)).1)
      rw [← HX.out, ← HT.out] at hown2
      have HOWN2 := Lib.hid hown2
      have HK2 := Lib.hid hK2
      clear hown2 hK2 hg2 hat2
      go_wp2_with fail
      go_roundw
      case rel => exact ⟨k + 1, B2, c2, by omega, rfl, by go_num, HOWN2.out, HK2⟩
      case measure => (first | (simp [RowKit.intOf]; done) | (simp [RowKit.intOf]; omega))
    · have hkn : k = n := by omega
      subst hkn
      rw [List.take_of_length_le (show xs.length ≤ k by rw [HL.out]; exact Nat.le_refl _)] at hown
      have HOWN := Lib.hid hown
      clear hown
      go_wp2_with fail
      go_ret2
      exact ⟨B, cB, rfl, HOWN.out, HK.out⟩
set_option maxRecDepth 100000 in
set_option maxHeartbeats 2000000 in
theorem arPlanes2 (w : World) (A : Option Addr) (n c : Nat) (xs : List Nat) (hl : xs.length = n) (hR : Rd w 1 A n (nv xs)) (hn : n ≤ 100000) (hx : ∀ x ∈ xs, Fin32 x) :
    Calls Try.prog 21 #[.string (eName 2), .slice A n c] w fun e w' => ∃ B cB, e = .returned (.tuple #[.slice B n cB, .int .i64 64]) ∧ w'.ownsRow w.heap.size 61 1 (.slice B n cB) n (qv (xs.map (eBits 2))) ∧ Keeps (fun _ => False) w w' := by
  obtain ⟨i0, hi0, hz0, hz1, hz2⟩ := info_parts infoQ
  have HL := Lib.hid hl
  have HR := Lib.hid hR
  clear hl hR
  rw [show eName 2 = ⟨#[70, 108, 111, 97, 116, 54, 52]⟩ from rfl]
  go_enter Try.func21, Try.ntmps21
  go_wp2_with fail
  go_loopw [6, 8] (fun b i wr => ∃ (k : Nat) (B : Option Addr) (cB : Nat), k ≤ n ∧ b = .slice B k cB ∧ i = .int .i64 k ∧ wr.ownsRow w.heap.size 61 1 (.slice B k cB) k (qv ((xs.take k).map (eBits 2))) ∧ Hid (Keeps (fun _ => False) w wr)) (fun _ i _ => n - (RowKit.intOf i).toNat)
  case atStart => exact ⟨0, none, 0, Nat.zero_le _, rfl, rfl, World.ownsRow_nil _ _ _ _, Lib.hid (Keeps.refl _ _)⟩
  case round =>
    obtain ⟨k, B, cB, hk, rfl, rfl, hown, HK⟩ := hrel
    by_cases hlt : k < n
    · obtain ⟨x, hxk⟩ : ∃ x, xs[k]? = some x := ⟨_, List.getElem?_eq_getElem (by rw [HL.out]; exact hlt)⟩
      have hxm := List.mem_of_getElem? hxk
      obtain ⟨ad, u, rfl, hb, hu, hc⟩ := (HR.out.keeps HK.out (fun _ _ h => h)).at' hlt
      obtain rfl : u = .int .u32 (x : Int) := by
        rw [nv, List.getElem?_map, hxk] at hu
        injection hu with hu
        exact hu.symm
      obtain ⟨r, hr1, hr2, hr3⟩ := widen_narrow x (hx x hxm).1 (hx x hxm).2
      have hext := vx32f (x : Int)
      rw [Int.toNat_natCast] at hext
      have hcv := run_convert_float_float (P := Try.prog) wr 53 77 .f32 .f64 x r (by kernel_rfl) Try.underlying77 hr1
      have hex2 := vx64b r wr
      have HX := Lib.hid (show eBits 2 x = r by show (floatToFloatBits .f32 x .f64).getD 0 = r; rw [hr1]; rfl)
      clear hr1 hr2 hr3
      have HT := Lib.hid (show qv ((xs.take (k + 1)).map (eBits 2)) = qv ((xs.take k).map (eBits 2)) ++ [.int .u64 ((eBits 2 x : Nat) : Int)] by rw [List.take_add_one, hxk, List.map_append, qv_app]; rfl)
      have HOWN := Lib.hid hown
      clear hxk hxm hu hown
      go_wp2_with (at_builtin
                   refine wpList_append_rd _ rfl (.tmp 37) (.tmp 45) _ rfl w.heap.size 61 i0 _ 1 8 Try.underlying58 hi0 hz0 hz1 hz2 rfl Nat.one_pos B cB k _ rfl (own_grow (w1 := wr) HOWN.out _) (some ⟨wr.heap.size, 0, none⟩) 1 1 [.int .u64 ((r : Nat) : Int)] rfl (rd_cell _ _ _) (by intro u hu; rw [List.mem_singleton.1 hu]; rfl) (by simp only [maxLen]; omega) (by omega) (by have := HK.out.size; simp; omega) ?_
                   intro B2 c2 w2 hown2 hg2 hat2)
      have hK2 := (HK.out.alloc (.cells #[.int .u64 ((r : Nat) : Int)] 61)).grown hg2 (fun i hi => .inr (HOWN.out.lt i (by rw [ownBlock_slice]; exact hi)).1)
      rw [← HX.out, ← HT.out] at hown2
      have HOWN2 := Lib.hid hown2
      have HK2 := Lib.hid hK2
      clear hown2 hK2 hg2 hat2
      go_wp2_with fail
      go_roundw
      case rel => exact ⟨k + 1, B2, c2, by omega, rfl, by go_num, HOWN2.out, HK2⟩
      case measure => (first | (simp [RowKit.intOf]; done) | (simp [RowKit.intOf]; omega))
    · have hkn : k = n := by omega
      subst hkn
      rw [List.take_of_length_le (show xs.length ≤ k by rw [HL.out]; exact Nat.le_refl _)] at hown
      have HOWN := Lib.hid hown
      clear hown
      go_wp2_with fail
      go_ret2
      exact ⟨B, cB, rfl, HOWN.out, HK.out⟩
theorem arPlanes (e : Nat) (he : e < 3) (w : World) (A : Option Addr) (n c : Nat) (xs : List Nat) (hl : xs.length = n) (hR : Rd w 1 A n (nv xs)) (hn : n ≤ 100000) (hx : ∀ x ∈ xs, Fin32 x) :
    Calls Try.prog 21 #[.string (eName e), .slice A n c] w fun e' w' => ∃ B cB, e' = .returned (.tuple #[.slice B n cB, .int .i64 (eW e : Int)]) ∧ w'.ownsRow w.heap.size 61 1 (.slice B n cB) n (qv (xs.map (eBits e))) ∧ Keeps (fun _ => False) w w' := by
  have h3 : e = 0 ∨ e = 1 ∨ e = 2 := by omega
  rcases h3 with rfl | rfl | rfl
  · exact arPlanes0 w A n c xs hl hR hn hx
  · exact arPlanes1 w A n c xs hl hR hn hx
  · exact arPlanes2 w A n c xs hl hR hn hx
end Go.Proofs.Ytfkokngjclaikaa
