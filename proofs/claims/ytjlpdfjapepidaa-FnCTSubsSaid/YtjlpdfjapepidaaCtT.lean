/- laws.ctType: a text of bounded size, whatever the bytes. Conditions: a depth up to 3. -/
import Derived.Test.YtjlpdfjapepidaaCtOf
import Derived.Deep.RegionHeld3
import Derived.Deep.DrawnRows
import Derived.IntWalk
namespace Go.Proofs.Ytjlpdfjapepidaa
open Go.RowKit Go.Lib
set_option linter.unusedVariables false
attribute [local go_sem ↓] Go.wp_at_zero Go.wp_at_succ

/-- A slice of n bytes. -/
def ByteRow (w : World) (A : Option Addr) (n : Nat) : Prop := ∀ k, k < n → ∃ (ad : Addr) (b : Int), A = some ad ∧ ad.block < w.heap.size ∧ w.cell? (ad.add k) = some (.int .u8 b) ∧ 0 ≤ b ∧ b < 256
theorem ByteRow.keeps {w w' : World} {A : Option Addr} {n : Nat} (h : ByteRow w A n) (hk : Keeps (fun _ => False) w w') : ByteRow w' A n := fun k hkn => by
  obtain ⟨ad, b, e, hl, hc, h0, h1⟩ := h k hkn
  exact ⟨ad, b, e, Nat.lt_of_lt_of_le hl hk.size, (hk.cell (by rw [blk_add]; exact hl) (fun h => h)).trans hc, h0, h1⟩
theorem ByteRow.drop {w : World} {ad : Addr} {n : Nat} (i : Nat) (hi : 0 < i) (h : ByteRow w (some ad) n) : ByteRow w (some ⟨ad.block, ad.off + i, none⟩) (n - i) := fun k hk => by
  obtain ⟨ad', b, e, hl, hc, h0, h1⟩ := h (i + k) (by omega)
  injection e with e
  subst e
  have e1 : (⟨ad.block, ad.off + i, none⟩ : Addr) = ad.add i := by unfold Addr.add; rw [if_neg (by omega)]
  exact ⟨_, b, rfl, hl, by rw [e1, add_add']; exact hc, h0, h1⟩
theorem ByteRow.rd {w : World} {A : Option Addr} {n : Nat} {l : List UInt8} (h : Rd w 1 A n (Lib.byteCells l)) (hl : l.length = n) : ByteRow w A n := fun k hk => by
  obtain ⟨ad, e, hb, hc⟩ := h.2 (by omega)
  have hkl : k < l.length := by omega
  refine ⟨ad, (l[k].toNat : Int), e, hb, hc k _ ?_, by omega, by have := l[k].toNat_lt; omega⟩
  simp [Lib.byteCells, List.getElem?_eq_getElem hkl]

def bd : Nat → Nat
  | 0 => 8
  | d + 1 => 2 * bd d + 30
theorem bd_le : ∀ d, d ≤ 3 → bd d ≤ 1000
  | 0, _ => by simp [bd]
  | 1, _ => by simp [bd]
  | 2, _ => by simp [bd]
  | 3, _ => by simp [bd]
theorem bd_ge (d : Nat) : 8 ≤ bd d := by
  cases d with
  | zero => simp [bd]
  | succ d => simp only [bd]; omega
def CtRes (w : World) (B : Nat) (e : Ending) (w' : World) : Prop := ∃ s : ByteArray, e = .returned (.string s) ∧ s.size ≤ B ∧ Keeps (fun _ => False) w w'
theorem plain_at (b : Int) (h0 : 0 ≤ b) : ∃ s, plainCells[(b % 22).toNat]? = some (.string s) ∧ s.size ≤ 8 := by
  have hk : (b % 22).toNat < plains.length := by show _ < 22; omega
  refine ⟨plains[(b % 22).toNat], ?_, (plain_of (List.getElem?_eq_getElem hk)).2.1⟩
  rw [plainCells_get, List.getElem?_eq_getElem hk]
  rfl

set_option maxRecDepth 100000 in
set_option maxHeartbeats 1000000 in
theorem ct_empty (w : World) (A : Option Addr) (c : Nat) (dI : Int) : Calls Try.prog 7 #[.slice A 0 c, .int .i64 dI] w fun e w' => CtRes w 8 e w' := by
  have K := (Keeps.refl (fun _ => False) w).alloc (.cells plainCells 9)
  obtain ⟨s, hp, hs⟩ := plain_at 0 (by omega)
  have hp' : plainCells[0]? = some (.string s) := hp
  go_enter Try.func7, Try.ntmps7
  go_wp2_with (first | (go_at_call 6; refine (ctPlain _).mono ?_; rintro e w1 ⟨rfl, rfl⟩))
  go_ret
  exact ⟨s, rfl, hs, K⟩

set_option maxRecDepth 100000 in
set_option maxHeartbeats 1000000 in
theorem ct_one (w : World) (ad : Addr) (c : Nat) (dI b : Int) (hb : ad.block < w.heap.size) (c0 : w.cell? ad = some (.int .u8 b)) (h0 : 0 ≤ b) (h1 : b < 256) (hc : 1 ≤ c) : Calls Try.prog 7 #[.slice (some ad) 1 c, .int .i64 dI] w fun e w' => CtRes w 8 e w' := by
  have K := (Keeps.refl (fun _ => False) w).alloc (.cells plainCells 9)
  have c0' : (w.alloc (.cells plainCells 9)).cell? ad = some (.int .u8 b) := (K.cell hb (fun h => h)).trans c0
  obtain ⟨s, hp, hs⟩ := plain_at b h0
  go_enter Try.func7, Try.ntmps7
  go_wp2_with (first | (go_at_call 6; refine (ctPlain _).mono ?_; rintro e w1 ⟨rfl, rfl⟩))
  go_ret
  exact ⟨s, rfl, hs, K⟩

set_option maxRecDepth 100000 in
set_option maxHeartbeats 1000000 in
theorem ct_flat (w : World) (ad : Addr) (n c : Nat) (b : Int) (hb : ad.block < w.heap.size) (c0 : w.cell? ad = some (.int .u8 b)) (h0 : 0 ≤ b) (h1 : b < 256) (h2 : 2 ≤ n) (hc : n ≤ c) : Calls Try.prog 7 #[.slice (some ad) n c, .int .i64 0] w fun e w' => CtRes w 8 e w' := by
  have K := (Keeps.refl (fun _ => False) w).alloc (.cells plainCells 9)
  have c0' : (w.alloc (.cells plainCells 9)).cell? ad = some (.int .u8 b) := (K.cell hb (fun h => h)).trans c0
  obtain ⟨s, hp, hs⟩ := plain_at b h0
  have t1 : ¬ (n : Int) < 2 := by omega
  go_enter Try.func7, Try.ntmps7
  go_wp2_with (first | (go_at_call 6; refine (ctPlain _).mono ?_; rintro e w1 ⟨rfl, rfl⟩))
  go_ret
  exact ⟨s, rfl, hs, K⟩

theorem ctS_one (t x : ByteArray) : (ctS t [x]).size = t.size + x.size + 2 := by
  rw [ba_size, ctS]; simp [Lib.join_one]; omega
theorem ctS_two (t x y : ByteArray) : (ctS t [x, y]).size = t.size + x.size + y.size + 4 := by
  rw [ba_size, ctS, List.map_cons, Lib.join_cons]; simp [Lib.joinTail]; omega
theorem srow1 (w : World) (t : TypeId) (x : ByteArray) : SRow (w.alloc (.cells #[.string x] t)) w.heap.size [x] := SRow.whole (Whole.new w t #[.string x]) (fun j y hj => by
  match j, hj with
  | 0, hj => simpa using hj
  | i + 1, hj => simp at hj)
theorem srow2 (w : World) (t : TypeId) (x y : ByteArray) : SRow (w.alloc (.cells #[.string x, .string y] t)) w.heap.size [x, y] := SRow.whole (Whole.new w t #[.string x, .string y]) (fun j z hj => by
  match j, hj with
  | 0, hj => simpa using hj
  | 1, hj => simpa using hj
  | i + 2, hj => simp at hj)

set_option maxRecDepth 100000 in
set_option maxHeartbeats 4000000 in
theorem ct_arr (w : World) (ad : Addr) (n c d : Nat) (b b1 : Int) (hb : ad.block < w.heap.size) (hR : ByteRow w (some ad) n) (c0 : w.cell? ad = some (.int .u8 b)) (c1 : w.cell? ⟨ad.block, ad.off + 1, none⟩ = some (.int .u8 b1)) (h0 : 0 ≤ b) (h1 : b < 256) (h10 : 0 ≤ b1) (h11 : b1 < 256) (h2 : 2 ≤ n) (hc : n ≤ c) (hm : c ≤ maxLen) (hd : d ≤ 2) (ih : ∀ (w : World) (A : Option Addr) (c n : Nat), n ≤ c → c ≤ maxLen → ByteRow w A n → Calls Try.prog 7 #[.slice A n c, .int .i64 (d : Int)] w fun e w' => CtRes w (bd d) e w') (hq : b % 5 = 0) : Calls Try.prog 7 #[.slice (some ad) n c, .int .i64 ((d : Int) + 1)] w fun e w' => CtRes w (bd (d + 1)) e w' := by
  have K := (Keeps.refl (fun _ => False) w).alloc (.cells plainCells 9)
  have c0' : (w.alloc (.cells plainCells 9)).cell? ad = some (.int .u8 b) := (K.cell hb (fun h => h)).trans c0
  have t1 : ¬ (n : Int) < 2 := by omega
  have t2 : ((d : Int) + 1 == 0) = false := by simp; omega
  have hbd := bd_le d (by omega)
  have hb8 := bd_ge d
  have hB : bd (d + 1) = 2 * bd d + 30 := rfl
  rw [hB]
  clear hB
  have hW : ByteRow (w.alloc (.cells plainCells 9)) (some ad) n := hR.keeps K
  have IH := Lib.hid ih
  have HB1 := Lib.hid (hW.drop 1 (by omega))
  have HM := Lib.hid hm
  unfold maxLen at hm
  have hW0 := hW
  clear hR hW ih
  clear hW0
  generalize bd d = B at *
  go_enter Try.func7, Try.ntmps7
  go_wp2_with (first | (go_at_call 6; refine (ctPlain _).mono ?_; rintro e w1 ⟨rfl, rfl⟩))
  refine (IH.out _ _ (c - 1) (n - 1) (by omega) (by have := HM.out; omega) HB1.out).mono ?_
  rintro e w2 ⟨x, rfl, hx, K2⟩
  have hxs : ∀ y ∈ [x], y.size ≤ 100000 := by intro y hy; rw [List.mem_singleton.1 hy]; omega
  go_wp2_with (first | (go_at_call 8; refine (ctOf _ ⟨#[65, 114, 114, 97, 121]⟩ _ _ 1 [x] rfl (srow1 w2 _ x) (by omega) (by decide) hxs).mono ?_; rintro e w3 ⟨rfl, rfl⟩))
  go_ret
  refine ⟨_, rfl, ?_, (K.trans K2 (fun _ _ h => h)).alloc _⟩
  rw [ctS_one, show (⟨#[65, 114, 114, 97, 121]⟩ : ByteArray).size = 5 from rfl]; omega

set_option maxRecDepth 100000 in
set_option maxHeartbeats 4000000 in
theorem ct_map (w : World) (ad : Addr) (n c d : Nat) (b b1 : Int) (hb : ad.block < w.heap.size) (hR : ByteRow w (some ad) n) (c0 : w.cell? ad = some (.int .u8 b)) (c1 : w.cell? ⟨ad.block, ad.off + 1, none⟩ = some (.int .u8 b1)) (h0 : 0 ≤ b) (h1 : b < 256) (h10 : 0 ≤ b1) (h11 : b1 < 256) (h2 : 2 ≤ n) (hc : n ≤ c) (hm : c ≤ maxLen) (hd : d ≤ 2) (ih : ∀ (w : World) (A : Option Addr) (c n : Nat), n ≤ c → c ≤ maxLen → ByteRow w A n → Calls Try.prog 7 #[.slice A n c, .int .i64 (d : Int)] w fun e w' => CtRes w (bd d) e w') (hq : b % 5 = 1) : Calls Try.prog 7 #[.slice (some ad) n c, .int .i64 ((d : Int) + 1)] w fun e w' => CtRes w (bd (d + 1)) e w' := by
  have K := (Keeps.refl (fun _ => False) w).alloc (.cells plainCells 9)
  have c0' : (w.alloc (.cells plainCells 9)).cell? ad = some (.int .u8 b) := (K.cell hb (fun h => h)).trans c0
  have t1 : ¬ (n : Int) < 2 := by omega
  have t2 : ((d : Int) + 1 == 0) = false := by simp; omega
  have hbd := bd_le d (by omega)
  have hb8 := bd_ge d
  have hB : bd (d + 1) = 2 * bd d + 30 := rfl
  rw [hB]
  clear hB
  have hW : ByteRow (w.alloc (.cells plainCells 9)) (some ad) n := hR.keeps K
  have IH := Lib.hid ih
  have HB1 := Lib.hid (hW.drop 1 (by omega))
  have HM := Lib.hid hm
  unfold maxLen at hm
  have hW0 := hW
  clear hR hW ih
  clear hW0
  generalize bd d = B at *
  go_enter Try.func7, Try.ntmps7
  go_wp2_with (first | (go_at_call 6; refine (ctPlain _).mono ?_; rintro e w1 ⟨rfl, rfl⟩))
  refine (IH.out _ _ (c - 1) (n - 1) (by omega) (by have := HM.out; omega) HB1.out).mono ?_
  rintro e w2 ⟨x, rfl, hx, K2⟩
  have hxs : ∀ y ∈ [(⟨#[83, 116, 114, 105, 110, 103]⟩ : ByteArray), x], y.size ≤ 100000 := by
    intro y hy
    rcases List.mem_cons.1 hy with rfl | hy
    · decide
    · rw [List.mem_singleton.1 hy]; omega
  go_wp2_with (first | (go_at_call 8; refine (ctOf _ ⟨#[77, 97, 112]⟩ _ _ 2 [⟨#[83, 116, 114, 105, 110, 103]⟩, x] rfl (srow2 w2 _ ⟨#[83, 116, 114, 105, 110, 103]⟩ x) (by omega) (by decide) hxs).mono ?_; rintro e w3 ⟨rfl, rfl⟩))
  go_ret
  refine ⟨_, rfl, ?_, (K.trans K2 (fun _ _ h => h)).alloc _⟩
  rw [ctS_two, show (⟨#[77, 97, 112]⟩ : ByteArray).size = 3 from rfl, show (⟨#[83, 116, 114, 105, 110, 103]⟩ : ByteArray).size = 6 from rfl]; omega

set_option maxRecDepth 100000 in
set_option maxHeartbeats 4000000 in
theorem ct_other (w : World) (ad : Addr) (n c d : Nat) (b b1 : Int) (hb : ad.block < w.heap.size) (hR : ByteRow w (some ad) n) (c0 : w.cell? ad = some (.int .u8 b)) (c1 : w.cell? ⟨ad.block, ad.off + 1, none⟩ = some (.int .u8 b1)) (h0 : 0 ≤ b) (h1 : b < 256) (h10 : 0 ≤ b1) (h11 : b1 < 256) (h2 : 2 ≤ n) (hc : n ≤ c) (hm : c ≤ maxLen) (hd : d ≤ 2) (ih : ∀ (w : World) (A : Option Addr) (c n : Nat), n ≤ c → c ≤ maxLen → ByteRow w A n → Calls Try.prog 7 #[.slice A n c, .int .i64 (d : Int)] w fun e w' => CtRes w (bd d) e w') (hq0 : ¬ b % 5 = 0) (hq1 : ¬ b % 5 = 1) (hq2 : ¬ b % 5 = 2) : Calls Try.prog 7 #[.slice (some ad) n c, .int .i64 ((d : Int) + 1)] w fun e w' => CtRes w (bd (d + 1)) e w' := by
  have K := (Keeps.refl (fun _ => False) w).alloc (.cells plainCells 9)
  have c0' : (w.alloc (.cells plainCells 9)).cell? ad = some (.int .u8 b) := (K.cell hb (fun h => h)).trans c0
  have t1 : ¬ (n : Int) < 2 := by omega
  have t2 : ((d : Int) + 1 == 0) = false := by simp; omega
  have hbd := bd_le d (by omega)
  have hb8 := bd_ge d
  have hB : bd (d + 1) = 2 * bd d + 30 := rfl
  rw [hB]
  clear hB
  have hW : ByteRow (w.alloc (.cells plainCells 9)) (some ad) n := hR.keeps K
  have IH := Lib.hid ih
  have HB1 := Lib.hid (hW.drop 1 (by omega))
  have HM := Lib.hid hm
  unfold maxLen at hm
  have hW0 := hW
  clear hR hW ih
  clear hW0
  have c1' : (w.alloc (.cells plainCells 9)).cell? ⟨ad.block, ad.off + 1, none⟩ = some (.int .u8 b1) := (K.cell (p := ⟨ad.block, ad.off + 1, none⟩) hb (fun h => h)).trans c1
  obtain ⟨s, hp, hs⟩ := plain_at b1 h10
  generalize bd d = B at *
  go_enter Try.func7, Try.ntmps7
  go_wp2_with (first | (go_at_call 6; refine (ctPlain _).mono ?_; rintro e w1 ⟨rfl, rfl⟩))
  go_ret
  exact ⟨s, rfl, by omega, K⟩

set_option maxRecDepth 100000 in
set_option maxHeartbeats 4000000 in
theorem ct_tup2 (w : World) (ad : Addr) (n c d : Nat) (b b1 : Int) (hb : ad.block < w.heap.size) (hR : ByteRow w (some ad) n) (c0 : w.cell? ad = some (.int .u8 b)) (c1 : w.cell? ⟨ad.block, ad.off + 1, none⟩ = some (.int .u8 b1)) (h0 : 0 ≤ b) (h1 : b < 256) (h10 : 0 ≤ b1) (h11 : b1 < 256) (h2 : 2 ≤ n) (hc : n ≤ c) (hm : c ≤ maxLen) (hd : d ≤ 2) (ih : ∀ (w : World) (A : Option Addr) (c n : Nat), n ≤ c → c ≤ maxLen → ByteRow w A n → Calls Try.prog 7 #[.slice A n c, .int .i64 (d : Int)] w fun e w' => CtRes w (bd d) e w') (hq : b % 5 = 2) (h3 : c = 2) : Calls Try.prog 7 #[.slice (some ad) n c, .int .i64 ((d : Int) + 1)] w fun e w' => CtRes w (bd (d + 1)) e w' := by
  have K := (Keeps.refl (fun _ => False) w).alloc (.cells plainCells 9)
  have c0' : (w.alloc (.cells plainCells 9)).cell? ad = some (.int .u8 b) := (K.cell hb (fun h => h)).trans c0
  have t1 : ¬ (n : Int) < 2 := by omega
  have t2 : ((d : Int) + 1 == 0) = false := by simp; omega
  have hbd := bd_le d (by omega)
  have hb8 := bd_ge d
  have hB : bd (d + 1) = 2 * bd d + 30 := rfl
  rw [hB]
  clear hB
  have hW : ByteRow (w.alloc (.cells plainCells 9)) (some ad) n := hR.keeps K
  have IH := Lib.hid ih
  have HB1 := Lib.hid (hW.drop 1 (by omega))
  have HM := Lib.hid hm
  unfold maxLen at hm
  have hW0 := hW
  clear hR hW ih
  clear hW0
  have hwr : IntKind.i64.wrap (d : Int) = (d : Int) := IntWalk.i64_in _ (by omega)
  have i1 : (1 : Int) ≤ (n : Int) := by omega
  have i2 : (2 : Int) ≤ (n : Int) := by omega
  have i3 : (n : Int) ≤ (c : Int) := by omega
  have i4 : ¬ c = 1 := by omega
  obtain rfl : n = 2 := by omega
  subst h3
  generalize bd d = B at *
  go_enter Try.func7, Try.ntmps7
  go_wp2_with (first | (go_at_call 6; refine (ctPlain _).mono ?_; rintro e w1 ⟨rfl, rfl⟩))
  go_region_held3 (fun w' => True) (trivial) (first | (go_at_call 8; refine (ctOf _ ⟨#[84, 117, 112, 108, 101]⟩ _ _ 2 [x, y] rfl (srow2 w3 _ x y) (by omega) (by decide) (by intro z hz; rcases List.mem_cons.1 hz with rfl | hz; (omega); (rw [List.mem_singleton.1 hz]; omega))).mono ?_; rintro e w4 ⟨rfl, rfl⟩) | (go_at_call 7; refine (IH.out _ _ _ _ (by omega) (by have := HM.out; omega) (by exact (fun k hk => absurd hk (by omega)))).mono ?_; rintro e w3 ⟨y, rfl, hy, K3⟩; have K23 := K2.trans K3 (fun _ _ h => h)) | (go_at_call 7; refine (IH.out _ _ _ _ (by omega) (by have := HM.out; omega) (HB1.out.keeps ((Keeps.refl (fun _ => False) _).drew))).mono ?_; rintro e w2 ⟨x, rfl, hx, K2⟩))
  all_goals
    go_wp2_with fail
    go_ret
    refine ⟨_, rfl, ?_, ((K.drew).trans K23 (fun _ _ h => h)).alloc _⟩
    rw [ctS_two, show (⟨#[84, 117, 112, 108, 101]⟩ : ByteArray).size = 5 from rfl]; omega

set_option maxRecDepth 100000 in
set_option maxHeartbeats 4000000 in
theorem ct_tup (w : World) (ad : Addr) (n c d : Nat) (b b1 : Int) (hb : ad.block < w.heap.size) (hR : ByteRow w (some ad) n) (c0 : w.cell? ad = some (.int .u8 b)) (c1 : w.cell? ⟨ad.block, ad.off + 1, none⟩ = some (.int .u8 b1)) (h0 : 0 ≤ b) (h1 : b < 256) (h10 : 0 ≤ b1) (h11 : b1 < 256) (h2 : 2 ≤ n) (hc : n ≤ c) (hm : c ≤ maxLen) (hd : d ≤ 2) (ih : ∀ (w : World) (A : Option Addr) (c n : Nat), n ≤ c → c ≤ maxLen → ByteRow w A n → Calls Try.prog 7 #[.slice A n c, .int .i64 (d : Int)] w fun e w' => CtRes w (bd d) e w') (hq : b % 5 = 2) (h3 : 2 < c) : Calls Try.prog 7 #[.slice (some ad) n c, .int .i64 ((d : Int) + 1)] w fun e w' => CtRes w (bd (d + 1)) e w' := by
  have K := (Keeps.refl (fun _ => False) w).alloc (.cells plainCells 9)
  have c0' : (w.alloc (.cells plainCells 9)).cell? ad = some (.int .u8 b) := (K.cell hb (fun h => h)).trans c0
  have t1 : ¬ (n : Int) < 2 := by omega
  have t2 : ((d : Int) + 1 == 0) = false := by simp; omega
  have hbd := bd_le d (by omega)
  have hb8 := bd_ge d
  have hB : bd (d + 1) = 2 * bd d + 30 := rfl
  rw [hB]
  clear hB
  have hW : ByteRow (w.alloc (.cells plainCells 9)) (some ad) n := hR.keeps K
  have IH := Lib.hid ih
  have HB1 := Lib.hid (hW.drop 1 (by omega))
  have HM := Lib.hid hm
  unfold maxLen at hm
  have hW0 := hW
  clear hR hW ih
  have hwr : IntKind.i64.wrap (d : Int) = (d : Int) := IntWalk.i64_in _ (by omega)
  have i1 : (1 : Int) ≤ (n : Int) := by omega
  have i2 : (2 : Int) ≤ (n : Int) := by omega
  have i3 : (n : Int) ≤ (c : Int) := by omega
  have i4 : ¬ c = 1 := by omega
  have i5 : ¬ c = 2 := by omega
  have HB2 := Lib.hid (hW0.drop 2 (by omega))
  clear hW0
  generalize bd d = B at *
  go_enter Try.func7, Try.ntmps7
  go_wp2_with (first | (go_at_call 6; refine (ctPlain _).mono ?_; rintro e w1 ⟨rfl, rfl⟩))
  go_region_held3 (fun w' => True) (trivial) (first | (go_at_call 8; refine (ctOf _ ⟨#[84, 117, 112, 108, 101]⟩ _ _ 2 [x, y] rfl (srow2 w3 _ x y) (by omega) (by decide) (by intro z hz; rcases List.mem_cons.1 hz with rfl | hz; (omega); (rw [List.mem_singleton.1 hz]; omega))).mono ?_; rintro e w4 ⟨rfl, rfl⟩) | (go_at_call 7; refine (IH.out _ _ _ _ (by omega) (by have := HM.out; omega) (by exact ((HB2.out.keeps ((Keeps.refl (fun _ => False) _).drew)).keeps K2))).mono ?_; rintro e w3 ⟨y, rfl, hy, K3⟩; have K23 := K2.trans K3 (fun _ _ h => h)) | (go_at_call 7; refine (IH.out _ _ _ _ (by omega) (by have := HM.out; omega) (HB1.out.keeps ((Keeps.refl (fun _ => False) _).drew))).mono ?_; rintro e w2 ⟨x, rfl, hx, K2⟩))
  all_goals
    go_wp2_with fail
    go_ret
    refine ⟨_, rfl, ?_, ((K.drew).trans K23 (fun _ _ h => h)).alloc _⟩
    rw [ctS_two, show (⟨#[84, 117, 112, 108, 101]⟩ : ByteArray).size = 5 from rfl]; omega

theorem add_zero' (ad : Addr) : ad.add 0 = ad := by unfold Addr.add; rw [if_pos rfl]
theorem CtRes.le {w w' : World} {B B' : Nat} {e : Ending} (h : CtRes w B e w') (hB : B ≤ B') : CtRes w B' e w' := by
  obtain ⟨s, h1, h2, h3⟩ := h
  exact ⟨s, h1, Nat.le_trans h2 hB, h3⟩
theorem ctType_any (d : Nat) (hd : d ≤ 3) : ∀ (w : World) (A : Option Addr) (c n : Nat), n ≤ c → c ≤ maxLen → ByteRow w A n → Calls Try.prog 7 #[.slice A n c, .int .i64 (d : Int)] w fun e w' => CtRes w (bd d) e w' := by
  induction d with
  | zero =>
    intro w A c n hc hm hR
    rcases Nat.lt_or_ge n 1 with h0 | h1
    · obtain rfl : n = 0 := by omega
      exact ct_empty w A c 0
    · obtain ⟨ad, b, rfl, hb, hc0, hb0, hb1⟩ := hR 0 (by omega)
      rw [add_zero'] at hc0
      rcases Nat.lt_or_ge n 2 with h2 | h2
      · obtain rfl : n = 1 := by omega
        exact ct_one w ad c 0 b hb hc0 hb0 hb1 hc
      · exact ct_flat w ad n c b hb hc0 hb0 hb1 h2 hc
  | succ d ih =>
    intro w A c n hc hm hR
    have h8 := bd_ge (d + 1)
    rcases Nat.lt_or_ge n 1 with h0 | h1
    · obtain rfl : n = 0 := by omega
      exact (ct_empty w A c _).mono fun e w' h => h.le h8
    · obtain ⟨ad, b, rfl, hb, hc0, hb0, hb1⟩ := hR 0 (by omega)
      rw [add_zero'] at hc0
      rcases Nat.lt_or_ge n 2 with h2 | h2
      · obtain rfl : n = 1 := by omega
        exact (ct_one w ad c _ b hb hc0 hb0 hb1 hc).mono fun e w' h => h.le h8
      · obtain ⟨ad', b1, e1, _, hc1, hb10, hb11⟩ := hR 1 (by omega)
        injection e1 with e1
        subst e1
        have hadd : ad.add 1 = ⟨ad.block, ad.off + 1, none⟩ := by unfold Addr.add; rw [if_neg (by omega)]
        rw [hadd] at hc1
        rw [show ((d + 1 : Nat) : Int) = (d : Int) + 1 by omega]
        have IHd := ih (by omega)
        by_cases q0 : b % 5 = 0
        · exact ct_arr w ad n c d b b1 hb hR hc0 hc1 hb0 hb1 hb10 hb11 h2 hc hm (by omega) IHd q0
        by_cases q1 : b % 5 = 1
        · exact ct_map w ad n c d b b1 hb hR hc0 hc1 hb0 hb1 hb10 hb11 h2 hc hm (by omega) IHd q1
        by_cases q2 : b % 5 = 2
        · by_cases h3 : c = 2
          · exact ct_tup2 w ad n c d b b1 hb hR hc0 hc1 hb0 hb1 hb10 hb11 h2 hc hm (by omega) IHd q2 h3
          · exact ct_tup w ad n c d b b1 hb hR hc0 hc1 hb0 hb1 hb10 hb11 h2 hc hm (by omega) IHd q2 (by omega)
        · exact ct_other w ad n c d b b1 hb hR hc0 hc1 hb0 hb1 hb10 hb11 h2 hc hm (by omega) IHd q0 q1 q2
end Go.Proofs.Ytjlpdfjapepidaa
