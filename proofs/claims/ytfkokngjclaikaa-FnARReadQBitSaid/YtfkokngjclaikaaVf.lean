/- ColQBit.Row: a vector is read from the planes. Conditions: the planes hold the vectors' bits. -/
import Derived.Test.YtfkokngjclaikaaVe
namespace Go.Proofs.Ytfkokngjclaikaa
open Go.RowKit Go.Lib
set_option linter.unusedVariables false
/-- Floats by a function, as cells. -/
def gcells (n : Nat) (f : Nat → Nat) : Array Value := ((List.range n).map fun i => Value.float .f32 (f i)).toArray
theorem gcells_size (T : Nat) (f : Nat → Nat) : (gcells T f).size = T := by simp [gcells]
theorem gcells_get {T : Nat} {f : Nat → Nat} {i : Nat} (h : i < T) : (gcells T f)[i]? = some (.float .f32 (f i)) := by
  simp [gcells, List.getElem?_range h]
theorem gcells_put {T : Nat} {f : Nat → Nat} (i x : Nat) : (gcells T f).setIfInBounds i (.float .f32 x) = gcells T (fun j => if j = i then x else f j) := by
  apply Array.ext_getElem?
  intro j
  rw [Array.getElem?_setIfInBounds]
  by_cases hj : j < T
  · rw [gcells_get hj, gcells_get hj, gcells_size]
    by_cases h : i = j
    · subst h; simp [hj]
    · rw [if_neg h, if_neg (by omega)]
  · have h1 : ∀ f, (gcells T f)[j]? = none := fun f => Array.getElem?_eq_none (by rw [gcells_size]; omega)
    rw [h1, h1, gcells_size]
    by_cases h : i = j
    · subst h; simp [hj]
    · rw [if_neg h]
theorem gcells_congr {T : Nat} {f g : Nat → Nat} (h : ∀ i, i < T → f i = g i) : gcells T f = gcells T g := by
  unfold gcells
  congr 1
  refine List.map_congr_left fun i hi => ?_
  rw [h i (List.mem_range.1 hi)]
theorem made_float (T : Nat) : madeCells (Value.float .f32 0).cells (T * 1) = gcells T (fun _ => 0) := by
  apply Array.ext_getElem?
  intro i
  rw [Nat.mul_one]
  by_cases h : i < T
  · rw [gcells_get h]
    simp [madeCells, Value.cells, h, Nat.mod_one]
  · rw [Array.getElem?_eq_none (by rw [size_madeCells]; omega), Array.getElem?_eq_none (by rw [gcells_size]; omega)]
theorem storeF {P : Program} {w : World} {a : Addr} {m : Mode} (k : FloatKind) (n : Nat) : (store a (.float k n) m).run P w = stored P w a (.float k n) m := run_store P w a _ m rfl
attribute [local go_sem] storeF
theorem infoF32 : (Try.prog.info? 53).map (fun i => (i.zero, i.size, i.bytes)) = some (some (.float .f32 0), 1, 4) := by kernel_rfl
/-- The planes hold bytes by a function. -/
def PlanesAt (w : World) (cs : Array Value) (W len : Nat) (F : Nat → Nat → Nat) : Prop := ∀ p, p < W → ∃ B d, cs[p]? = some (.slice B len d) ∧ Rd w 1 B len (fcells len (F p)).toList
theorem PlanesAt.new {w w' : World} {cs : Array Value} {W len : Nat} {F : Nat → Nat → Nat} (h : PlanesAt w cs W len F) (k : Keeps (fun _ => False) w w') : PlanesAt w' cs W len F := fun p hp => by
  obtain ⟨B, d, h1, h2⟩ := h p hp
  exact ⟨B, d, h1, h2.keeps k (fun _ _ h => h)⟩
theorem top_bits (v s : Nat) : v / 2 ^ (s + 1) * 2 ^ (s + 1) ||| v / 2 ^ s % 2 * 2 ^ s = v / 2 ^ s * 2 ^ s := by
  have hlt : v / 2 ^ s % 2 * 2 ^ s < 2 ^ (s + 1) := by
    rw [Nat.pow_succ, Nat.mul_comm (2 ^ s) 2]
    exact Nat.mul_lt_mul_of_pos_right (Nat.mod_lt _ (by omega)) (Nat.two_pow_pos s)
  rw [Nat.mul_comm (v / 2 ^ (s + 1)), ← Nat.two_pow_add_eq_or_of_lt hlt, Nat.pow_succ, ← Nat.div_div_eq_div_mul]
  generalize v / 2 ^ s = a
  rw [Nat.mul_assoc, Nat.mul_comm (2 ^ s), ← Nat.add_mul]
  congr 1
  omega
theorem stepBits (v b j s : Nat) (hb : b < 256) (hv : v < 18446744073709551616) (hs : s ≤ 63) (h : b / 2 ^ j % 2 = v / 2 ^ s % 2) : Go.bits .or .u64 ((v / 2 ^ (s + 1) * 2 ^ (s + 1) : Nat) : Int) (IntKind.u64.wrap (IntKind.u64.wrap (Go.bits .and .u8 ((b : Int) / 2 ^ j) 1) * 2 ^ s)) = ((v / 2 ^ s * 2 ^ s : Nat) : Int) := by
  have h1 := band_u8 (b / 2 ^ j) 1 (Nat.lt_of_le_of_lt (Nat.div_le_self _ _) hb) (by omega)
  rw [and_one, Int.natCast_ediv, Int.natCast_pow, h] at h1
  have h1' : Go.bits .and .u8 ((b : Int) / 2 ^ j) 1 = ((v / 2 ^ s % 2 : Nat) : Int) := h1
  rw [h1']
  have ht : v / 2 ^ s % 2 < 2 := Nat.mod_lt _ (by omega)
  have htop := top_bits v s
  have hle : v / 2 ^ (s + 1) * 2 ^ (s + 1) < 18446744073709551616 := Nat.lt_of_le_of_lt (Nat.div_mul_le_self _ _) hv
  generalize v / 2 ^ (s + 1) * 2 ^ (s + 1) = acc at *
  generalize v / 2 ^ s * 2 ^ s = fin at *
  generalize v / 2 ^ s % 2 = t at *
  have hp : 2 ^ s ≤ 9223372036854775808 := Nat.pow_le_pow_right (n := 2) (by omega) hs
  have hts : t * 2 ^ s ≤ 9223372036854775808 := Nat.le_trans (Nat.mul_le_mul_right (2 ^ s) (show t ≤ 1 by omega)) (by omega)
  have hw1 : IntKind.u64.wrap (t : Int) = (t : Int) := by rw [IntKind.wrap_u64]; omega
  have hc : (t : Int) * 2 ^ s = ((t * 2 ^ s : Nat) : Int) := by simp
  rw [hw1, hc]
  generalize t * 2 ^ s = u at *
  have hw2 : IntKind.u64.wrap (u : Int) = (u : Int) := by rw [IntKind.wrap_u64]; omega
  rw [hw2, bits_or_u64_nat acc u hle (by omega), htop]
set_option maxRecDepth 100000 in
set_option maxHeartbeats 8000000 in
theorem qRow0 (w : World) (g b0 n nb m len : Nat) (cs : Array Value) (X : List Nat) (r : Nat) (F : Nat → Nat → Nat) (hr : r < m) (hm : m ≤ 100) (hn : n ≤ 100) (hnb : nb = (n + 7) / 8) (hlen : m * nb = len) (hQ : QAt w g b0 (eName 0) n 16 nb cs m) (hP : PlanesAt w cs 16 len F) (hX : X.length = n) (hX2 : ∀ x ∈ X, Fin32 x)
    (hF : ∀ p k, p < 16 → k < n → F p (r * nb + (nb - 1 - k / 8)) / 2 ^ (k % 8) % 2 = eBits 0 (X.getD k 0) / 2 ^ (16 - 1 - p) % 2) (hF2 : ∀ p j, F p j < 256) :
    Calls Try.prog 18 #[.pointer (some ⟨g, 0, none⟩), .int .i64 (r : Int)] w fun e' w' => ∃ g', e' = .returned (.slice (some ⟨g', 0, none⟩) n n) ∧ w.heap.size ≤ g' ∧ Whole w' g' 53 (gcells n (fun k => eOut 0 (X.getD k 0))) ∧ Keeps (fun _ => False) w w' := by
  obtain ⟨u0, hu0, hv0, hv1, hv2⟩ := info_parts infoF32
  have hmk : ∀ w0 : World, (Instr.makeSlice 54 (.int .i64 (n : Int)) (.int .i64 (n : Int))).run Try.prog w0 = .ok (.slice (some ⟨w0.heap.size, 0, none⟩) n n) (w0.alloc (.cells (gcells n (fun _ => 0)) 53)) := fun w0 => by
    have h := run_make (P := Try.prog) w0 54 53 u0 (.float .f32 0) Try.underlying54 hu0 hv0 .i64 .i64 (n : Int) (n : Int) (by omega) (Int.le_refl _) (by rw [hv2]; omega) (by omega)
    rw [hv1, Int.toNat_natCast, made_float] at h
    exact h
  rw [show eName 0 = ⟨#[66, 70, 108, 111, 97, 116, 49, 54]⟩ from rfl] at hQ
  have c0 : w.cell? ⟨g, 0, none⟩ = some (.string ⟨#[66, 70, 108, 111, 97, 116, 49, 54]⟩) := hQ.col.cell 0
  have c1 : w.cell? ⟨g, 1, none⟩ = some (.int .i64 (n : Int)) := hQ.col.cell 1
  have c2 : w.cell? ⟨g, 2, none⟩ = some (.int .i64 ((16 : Nat) : Int)) := hQ.col.cell 2
  have c3 : w.cell? ⟨g, 3, none⟩ = some (.int .i64 (nb : Int)) := hQ.col.cell 3
  have c4 : w.cell? ⟨g, 4, none⟩ = some (.slice (some ⟨b0, 0, none⟩) 16 16) := hQ.col.cell 4
  have c5 : w.cell? ⟨g, 5, none⟩ = some (.int .i64 (m : Int)) := hQ.col.cell 5
  have hgl := hQ.col.lt
  have HQ := Lib.hid hQ
  have HP := Lib.hid hP
  have HX := Lib.hid hX
  have HX2 := Lib.hid hX2
  have HF := Lib.hid hF
  have HF2 := Lib.hid hF2
  have HNB := Lib.hid (And.intro hnb hlen)
  have HWN := Lib.hid (Whole.new w 53 (gcells n (fun _ => 0)))
  have HK0 := Lib.hid ((Keeps.refl (fun _ => False) w).alloc (.cells (gcells n (fun _ => 0)) 53))
  have hlt0 : ¬ (r : Int) < 0 := by omega
  have hge : ¬ (m : Int) ≤ (r : Int) := by omega
  clear hQ hP hX hX2 hF hF2 hnb hlen
  go_enter Try.func18, Try.ntmps18
  go_wp2_with fail
  go_loopw [33] (fun s33 wr => ∃ k : Nat, k ≤ n ∧ s33 = .int .i64 k ∧ Hid (Whole wr w.heap.size 53 (gcells n (fun i => if i < k then eOut 0 (X.getD i 0) else 0))) ∧ Hid (Keeps (fun _ => False) w wr)) (fun s33 _ => n - (RowKit.intOf s33).toNat)
  case atStart => exact ⟨0, Nat.zero_le _, rfl, Lib.hid (by rw [gcells_congr (g := fun _ => 0) (fun i _ => if_neg (Nat.not_lt_zero i))]; exact HWN.out), HK0⟩
  case round =>
    clear c0 c1 c2 c3 c4 c5
    obtain ⟨k, hk, rfl, HB, HK⟩ := hrel
    by_cases hlt : k < n
    · obtain ⟨x, hxk⟩ : ∃ x, X[k]? = some x := ⟨_, List.getElem?_eq_getElem (by rw [HX.out]; exact hlt)⟩
      have hxm := List.mem_of_getElem? hxk
      have hgd : X.getD k 0 = x := by simp [hxk]
      have hQ2 := HQ.out.new HK.out
      have c0 : wr.cell? ⟨g, 0, none⟩ = some (.string ⟨#[66, 70, 108, 111, 97, 116, 49, 54]⟩) := hQ2.col.cell 0
      have c2 : wr.cell? ⟨g, 2, none⟩ = some (.int .i64 ((16 : Nat) : Int)) := hQ2.col.cell 2
      have c3 : wr.cell? ⟨g, 3, none⟩ = some (.int .i64 (nb : Int)) := hQ2.col.cell 3
      have c4 : wr.cell? ⟨g, 4, none⟩ = some (.slice (some ⟨b0, 0, none⟩) 16 16) := hQ2.col.cell 4
      have hgl2 := hQ2.col.lt
      have HP2 := Lib.hid (HP.out.new HK.out)
      have HPL := Lib.hid hQ2.pl
      obtain ⟨hnb, hlen⟩ := HNB.out
      obtain ⟨J, hJ⟩ : ∃ J, nb - 1 - k / 8 = J := ⟨_, rfl⟩
      obtain ⟨rn, hrn⟩ : ∃ rn, r * nb = rn := ⟨_, rfl⟩
      have hrn1 : rn + nb ≤ len := by
        rw [← hrn, ← hlen, show r * nb + nb = (r + 1) * nb from (Nat.succ_mul r nb).symm]
        exact Nat.mul_le_mul_right nb hr
      have hlen1 : len ≤ 1300 := by rw [← hlen]; exact Nat.le_trans (Nat.mul_le_mul hm (show nb ≤ 13 by omega)) (by omega)
      have y1 : IntKind.i64.wrap ((nb : Int) - 1) = (nb : Int) - 1 := by rw [IntKind.wrap_i64]; omega
      have y2 : IntKind.i64.wrap ((nb : Int) - 1 - (k : Int) / 8) = (J : Int) := by rw [IntKind.wrap_i64]; omega
      have y3 : IntKind.i64.wrap ((r : Int) * (nb : Int)) = (rn : Int) := wrapMul hrn (by omega)
      have y4 : IntKind.i64.wrap ((rn : Int) + (J : Int)) = ((rn + J : Nat) : Int) := by rw [IntKind.wrap_i64]; omega
      have y5 : rn + J < len := by omega
      have y6 : (0 : Int) ≤ (k : Int) % 8 := by omega
      have y8 : ((k : Int) % 8).toNat = k % 8 := by omega
      obtain ⟨ix, hix⟩ : ∃ ix, rn + J = ix := ⟨_, rfl⟩
      rw [hix] at y4 y5
      have HFX := Lib.hid (fun p (hp : p < 16) => by have h := HF.out p k hp hlt; rw [hJ, hrn, hix, hgd] at h; exact h)
      have HVB := Lib.hid (eBits_lt (e := 0) (by omega) (HX2.out x hxm))
      have hX2 := HX2.out
      have HBF := Lib.hid (bfloatBack wr (eBits 0 x) (half_lt x))
      have cv : IntKind.u16.wrap ((eBits 0 x : Nat) : Int) = ((eBits 0 x : Nat) : Int) := by have : eBits 0 x < 65536 := half_lt x; rw [IntKind.wrap_u16]; omega
      have HGD := Lib.hid hgd
      clear hX2 hxk hxm hgd hnb hlen hJ hrn hix hrn1 hlen1 hQ2
      go_wp2_with fail
      go_loopw [51, 9] (fun s51 s9 wp => ∃ p : Nat, p ≤ 16 ∧ s51 = .int .i64 p ∧ s9 = .int .u64 ((eBits 0 x / 2 ^ (16 - p) * 2 ^ (16 - p) : Nat) : Int) ∧ wp = wr) (fun s51 _ _ => 16 - (RowKit.intOf s51).toNat)
      case atStart => exact ⟨0, Nat.zero_le _, rfl, by rw [show eBits 0 x / 2 ^ (16 - 0) = 0 from Nat.div_eq_of_lt HVB.out, Nat.zero_mul]; rfl, rfl⟩
      case round =>
        obtain ⟨p, hp, rfl, rfl, rfl⟩ := hrel
        by_cases hlt2 : p < 16
        · obtain ⟨B, d, hcs, hRd⟩ := HP2.out p hlt2
          obtain ⟨adp, u, rfl, hbp, hu, hcp⟩ := hRd.at' (k := ix) y5
          obtain rfl : u = .int .u8 ((F p ix : Nat) : Int) := by
            rw [Array.getElem?_toList, fcells_get y5] at hu
            injection hu with hu
            exact hu.symm
          have hpc := HPL.out.cell p
          rw [hcs] at hpc
          have hpl := HPL.out.lt
          obtain ⟨acc, hacc⟩ : ∃ acc, eBits 0 x / 2 ^ (16 - p) * 2 ^ (16 - p) = acc := ⟨_, rfl⟩
          rw [hacc]
          have hstep := stepBits (eBits 0 x) (F p ix) (k % 8) (16 - 1 - p) (HF2.out p ix) (Nat.lt_of_lt_of_le HVB.out (by decide)) (by omega) (HFX.out p hlt2)
          rw [show 16 - 1 - p + 1 = 16 - p by omega, hacc, show 16 - 1 - p = 16 - (p + 1) by omega] at hstep
          have HST := Lib.hid hstep
          clear hcs hRd hu hacc hstep
          go_wp2_with fail
          refine ⟨⟨p + 1, by omega, by go_num, congrArg (Value.int .u64) (Eq.trans ?_ HST.out), trivial⟩, (by first | (simp [RowKit.intOf]; done) | (simp [RowKit.intOf]; omega))⟩
          rw [show 16 - (p + 1) = 15 - p by omega]
        · obtain rfl : p = 16 := by omega
          rw [show eBits 0 x / 2 ^ (16 - 16) * 2 ^ (16 - 16) = eBits 0 x by simp]
          have hfz := HB.out.frozen k
          have hc := HB.out.cell k
          rw [gcells_get hlt] at hc
          have hgl3 := HB.out.lt
          have HFN := Lib.hid (show (gcells n (fun i => if i < k then eOut 0 (X.getD i 0) else 0)).setIfInBounds k (.float .f32 (eBits 0 x * 65536)) = gcells n (fun i => if i < k + 1 then eOut 0 (X.getD i 0) else 0) by
            rw [gcells_put]
            refine gcells_congr fun i _ => ?_
            by_cases hi : i = k
            · subst hi; rw [if_pos rfl, if_pos (by omega), HGD.out]; rfl
            · rw [if_neg hi]
              by_cases h2 : i < k
              · rw [if_pos h2, if_pos (by omega)]
              · rw [if_neg h2, if_neg (by omega)])
          go_wp2_with fail
          refine HBF.out.mono ?_
          rintro e' wq ⟨rfl, rfl⟩
          go_wp2_with fail
          go_roundw
          case rel => exact ⟨k + 1, by omega, by go_num, Lib.hid (by rw [← HFN.out]; exact HB.out.put k _), Lib.hid (HK.out.setCell (p := ⟨w.heap.size, k, none⟩) (.inr (Nat.le_refl _)) _)⟩
          case measure => (first | (simp [RowKit.intOf]; done) | (simp [RowKit.intOf]; omega))
    · obtain rfl : k = n := by omega
      have HFN := Lib.hid (show gcells k (fun i => if i < k then eOut 0 (X.getD i 0) else 0) = gcells k (fun i => eOut 0 (X.getD i 0)) from gcells_congr fun i hi => if_pos hi)
      go_wp2_with fail
      go_ret
      exact ⟨w.heap.size, rfl, Nat.le_refl _, by rw [← HFN.out]; exact HB.out, HK.out⟩
set_option maxRecDepth 100000 in
set_option maxHeartbeats 8000000 in
theorem qRow1 (w : World) (g b0 n nb m len : Nat) (cs : Array Value) (X : List Nat) (r : Nat) (F : Nat → Nat → Nat) (hr : r < m) (hm : m ≤ 100) (hn : n ≤ 100) (hnb : nb = (n + 7) / 8) (hlen : m * nb = len) (hQ : QAt w g b0 (eName 1) n 32 nb cs m) (hP : PlanesAt w cs 32 len F) (hX : X.length = n) (hX2 : ∀ x ∈ X, Fin32 x)
    (hF : ∀ p k, p < 32 → k < n → F p (r * nb + (nb - 1 - k / 8)) / 2 ^ (k % 8) % 2 = eBits 1 (X.getD k 0) / 2 ^ (32 - 1 - p) % 2) (hF2 : ∀ p j, F p j < 256) :
    Calls Try.prog 18 #[.pointer (some ⟨g, 0, none⟩), .int .i64 (r : Int)] w fun e' w' => ∃ g', e' = .returned (.slice (some ⟨g', 0, none⟩) n n) ∧ w.heap.size ≤ g' ∧ Whole w' g' 53 (gcells n (fun k => eOut 1 (X.getD k 0))) ∧ Keeps (fun _ => False) w w' := by
  obtain ⟨u0, hu0, hv0, hv1, hv2⟩ := info_parts infoF32
  have hmk : ∀ w0 : World, (Instr.makeSlice 54 (.int .i64 (n : Int)) (.int .i64 (n : Int))).run Try.prog w0 = .ok (.slice (some ⟨w0.heap.size, 0, none⟩) n n) (w0.alloc (.cells (gcells n (fun _ => 0)) 53)) := fun w0 => by
    have h := run_make (P := Try.prog) w0 54 53 u0 (.float .f32 0) Try.underlying54 hu0 hv0 .i64 .i64 (n : Int) (n : Int) (by omega) (Int.le_refl _) (by rw [hv2]; omega) (by omega)
    rw [hv1, Int.toNat_natCast, made_float] at h
    exact h
  rw [show eName 1 = ⟨#[70, 108, 111, 97, 116, 51, 50]⟩ from rfl] at hQ
  have c0 : w.cell? ⟨g, 0, none⟩ = some (.string ⟨#[70, 108, 111, 97, 116, 51, 50]⟩) := hQ.col.cell 0
  have c1 : w.cell? ⟨g, 1, none⟩ = some (.int .i64 (n : Int)) := hQ.col.cell 1
  have c2 : w.cell? ⟨g, 2, none⟩ = some (.int .i64 ((32 : Nat) : Int)) := hQ.col.cell 2
  have c3 : w.cell? ⟨g, 3, none⟩ = some (.int .i64 (nb : Int)) := hQ.col.cell 3
  have c4 : w.cell? ⟨g, 4, none⟩ = some (.slice (some ⟨b0, 0, none⟩) 32 32) := hQ.col.cell 4
  have c5 : w.cell? ⟨g, 5, none⟩ = some (.int .i64 (m : Int)) := hQ.col.cell 5
  have hgl := hQ.col.lt
  have HQ := Lib.hid hQ
  have HP := Lib.hid hP
  have HX := Lib.hid hX
  have HX2 := Lib.hid hX2
  have HF := Lib.hid hF
  have HF2 := Lib.hid hF2
  have HNB := Lib.hid (And.intro hnb hlen)
  have HWN := Lib.hid (Whole.new w 53 (gcells n (fun _ => 0)))
  have HK0 := Lib.hid ((Keeps.refl (fun _ => False) w).alloc (.cells (gcells n (fun _ => 0)) 53))
  have hlt0 : ¬ (r : Int) < 0 := by omega
  have hge : ¬ (m : Int) ≤ (r : Int) := by omega
  clear hQ hP hX hX2 hF hF2 hnb hlen
  go_enter Try.func18, Try.ntmps18
  go_wp2_with fail
  go_loopw [33] (fun s33 wr => ∃ k : Nat, k ≤ n ∧ s33 = .int .i64 k ∧ Hid (Whole wr w.heap.size 53 (gcells n (fun i => if i < k then eOut 1 (X.getD i 0) else 0))) ∧ Hid (Keeps (fun _ => False) w wr)) (fun s33 _ => n - (RowKit.intOf s33).toNat)
  case atStart => exact ⟨0, Nat.zero_le _, rfl, Lib.hid (by rw [gcells_congr (g := fun _ => 0) (fun i _ => if_neg (Nat.not_lt_zero i))]; exact HWN.out), HK0⟩
  case round =>
    clear c0 c1 c2 c3 c4 c5
    obtain ⟨k, hk, rfl, HB, HK⟩ := hrel
    by_cases hlt : k < n
    · obtain ⟨x, hxk⟩ : ∃ x, X[k]? = some x := ⟨_, List.getElem?_eq_getElem (by rw [HX.out]; exact hlt)⟩
      have hxm := List.mem_of_getElem? hxk
      have hgd : X.getD k 0 = x := by simp [hxk]
      have hQ2 := HQ.out.new HK.out
      have c0 : wr.cell? ⟨g, 0, none⟩ = some (.string ⟨#[70, 108, 111, 97, 116, 51, 50]⟩) := hQ2.col.cell 0
      have c2 : wr.cell? ⟨g, 2, none⟩ = some (.int .i64 ((32 : Nat) : Int)) := hQ2.col.cell 2
      have c3 : wr.cell? ⟨g, 3, none⟩ = some (.int .i64 (nb : Int)) := hQ2.col.cell 3
      have c4 : wr.cell? ⟨g, 4, none⟩ = some (.slice (some ⟨b0, 0, none⟩) 32 32) := hQ2.col.cell 4
      have hgl2 := hQ2.col.lt
      have HP2 := Lib.hid (HP.out.new HK.out)
      have HPL := Lib.hid hQ2.pl
      obtain ⟨hnb, hlen⟩ := HNB.out
      obtain ⟨J, hJ⟩ : ∃ J, nb - 1 - k / 8 = J := ⟨_, rfl⟩
      obtain ⟨rn, hrn⟩ : ∃ rn, r * nb = rn := ⟨_, rfl⟩
      have hrn1 : rn + nb ≤ len := by
        rw [← hrn, ← hlen, show r * nb + nb = (r + 1) * nb from (Nat.succ_mul r nb).symm]
        exact Nat.mul_le_mul_right nb hr
      have hlen1 : len ≤ 1300 := by rw [← hlen]; exact Nat.le_trans (Nat.mul_le_mul hm (show nb ≤ 13 by omega)) (by omega)
      have y1 : IntKind.i64.wrap ((nb : Int) - 1) = (nb : Int) - 1 := by rw [IntKind.wrap_i64]; omega
      have y2 : IntKind.i64.wrap ((nb : Int) - 1 - (k : Int) / 8) = (J : Int) := by rw [IntKind.wrap_i64]; omega
      have y3 : IntKind.i64.wrap ((r : Int) * (nb : Int)) = (rn : Int) := wrapMul hrn (by omega)
      have y4 : IntKind.i64.wrap ((rn : Int) + (J : Int)) = ((rn + J : Nat) : Int) := by rw [IntKind.wrap_i64]; omega
      have y5 : rn + J < len := by omega
      have y6 : (0 : Int) ≤ (k : Int) % 8 := by omega
      have y8 : ((k : Int) % 8).toNat = k % 8 := by omega
      obtain ⟨ix, hix⟩ : ∃ ix, rn + J = ix := ⟨_, rfl⟩
      rw [hix] at y4 y5
      have HFX := Lib.hid (fun p (hp : p < 32) => by have h := HF.out p k hp hlt; rw [hJ, hrn, hix, hgd] at h; exact h)
      have HVB := Lib.hid (eBits_lt (e := 1) (by omega) (HX2.out x hxm))
      have hX2 := HX2.out
      have hext := vx32f (x : Int)
      rw [Int.toNat_natCast] at hext
      have cv : IntKind.u32.wrap (x : Int) = (x : Int) := by have := (hX2 x hxm).1; rw [IntKind.wrap_u32]; omega
      have HGD := Lib.hid hgd
      clear hX2 hxk hxm hgd hnb hlen hJ hrn hix hrn1 hlen1 hQ2
      go_wp2_with fail
      go_loopw [51, 9] (fun s51 s9 wp => ∃ p : Nat, p ≤ 32 ∧ s51 = .int .i64 p ∧ s9 = .int .u64 ((eBits 1 x / 2 ^ (32 - p) * 2 ^ (32 - p) : Nat) : Int) ∧ wp = wr) (fun s51 _ _ => 32 - (RowKit.intOf s51).toNat)
      case atStart => exact ⟨0, Nat.zero_le _, rfl, by rw [show eBits 1 x / 2 ^ (32 - 0) = 0 from Nat.div_eq_of_lt HVB.out, Nat.zero_mul]; rfl, rfl⟩
      case round =>
        obtain ⟨p, hp, rfl, rfl, rfl⟩ := hrel
        by_cases hlt2 : p < 32
        · obtain ⟨B, d, hcs, hRd⟩ := HP2.out p hlt2
          obtain ⟨adp, u, rfl, hbp, hu, hcp⟩ := hRd.at' (k := ix) y5
          obtain rfl : u = .int .u8 ((F p ix : Nat) : Int) := by
            rw [Array.getElem?_toList, fcells_get y5] at hu
            injection hu with hu
            exact hu.symm
          have hpc := HPL.out.cell p
          rw [hcs] at hpc
          have hpl := HPL.out.lt
          obtain ⟨acc, hacc⟩ : ∃ acc, eBits 1 x / 2 ^ (32 - p) * 2 ^ (32 - p) = acc := ⟨_, rfl⟩
          rw [hacc]
          have hstep := stepBits (eBits 1 x) (F p ix) (k % 8) (32 - 1 - p) (HF2.out p ix) (Nat.lt_of_lt_of_le HVB.out (by decide)) (by omega) (HFX.out p hlt2)
          rw [show 32 - 1 - p + 1 = 32 - p by omega, hacc, show 32 - 1 - p = 32 - (p + 1) by omega] at hstep
          have HST := Lib.hid hstep
          clear hcs hRd hu hacc hstep
          go_wp2_with fail
          refine ⟨⟨p + 1, by omega, by go_num, congrArg (Value.int .u64) (Eq.trans ?_ HST.out), trivial⟩, (by first | (simp [RowKit.intOf]; done) | (simp [RowKit.intOf]; omega))⟩
          rw [show 32 - (p + 1) = 31 - p by omega]
        · obtain rfl : p = 32 := by omega
          rw [show eBits 1 x / 2 ^ (32 - 32) * 2 ^ (32 - 32) = eBits 1 x by simp]
          have hfz := HB.out.frozen k
          have hc := HB.out.cell k
          rw [gcells_get hlt] at hc
          have hgl3 := HB.out.lt
          have HFN := Lib.hid (show (gcells n (fun i => if i < k then eOut 1 (X.getD i 0) else 0)).setIfInBounds k (.float .f32 (x)) = gcells n (fun i => if i < k + 1 then eOut 1 (X.getD i 0) else 0) by
            rw [gcells_put]
            refine gcells_congr fun i _ => ?_
            by_cases hi : i = k
            · subst hi; rw [if_pos rfl, if_pos (by omega), HGD.out]; rfl
            · rw [if_neg hi]
              by_cases h2 : i < k
              · rw [if_pos h2, if_pos (by omega)]
              · rw [if_neg h2, if_neg (by omega)])
          rw [show eBits 1 x = x from rfl]
          go_wp2_with fail
          go_roundw
          case rel => exact ⟨k + 1, by omega, by go_num, Lib.hid (by rw [← HFN.out]; exact HB.out.put k _), Lib.hid (HK.out.setCell (p := ⟨w.heap.size, k, none⟩) (.inr (Nat.le_refl _)) _)⟩
          case measure => (first | (simp [RowKit.intOf]; done) | (simp [RowKit.intOf]; omega))
    · obtain rfl : k = n := by omega
      have HFN := Lib.hid (show gcells k (fun i => if i < k then eOut 1 (X.getD i 0) else 0) = gcells k (fun i => eOut 1 (X.getD i 0)) from gcells_congr fun i hi => if_pos hi)
      go_wp2_with fail
      go_ret
      exact ⟨w.heap.size, rfl, Nat.le_refl _, by rw [← HFN.out]; exact HB.out, HK.out⟩
set_option maxRecDepth 100000 in
set_option maxHeartbeats 8000000 in
theorem qRow2 (w : World) (g b0 n nb m len : Nat) (cs : Array Value) (X : List Nat) (r : Nat) (F : Nat → Nat → Nat) (hr : r < m) (hm : m ≤ 100) (hn : n ≤ 100) (hnb : nb = (n + 7) / 8) (hlen : m * nb = len) (hQ : QAt w g b0 (eName 2) n 64 nb cs m) (hP : PlanesAt w cs 64 len F) (hX : X.length = n) (hX2 : ∀ x ∈ X, Fin32 x)
    (hF : ∀ p k, p < 64 → k < n → F p (r * nb + (nb - 1 - k / 8)) / 2 ^ (k % 8) % 2 = eBits 2 (X.getD k 0) / 2 ^ (64 - 1 - p) % 2) (hF2 : ∀ p j, F p j < 256) :
    Calls Try.prog 18 #[.pointer (some ⟨g, 0, none⟩), .int .i64 (r : Int)] w fun e' w' => ∃ g', e' = .returned (.slice (some ⟨g', 0, none⟩) n n) ∧ w.heap.size ≤ g' ∧ Whole w' g' 53 (gcells n (fun k => eOut 2 (X.getD k 0))) ∧ Keeps (fun _ => False) w w' := by
  obtain ⟨u0, hu0, hv0, hv1, hv2⟩ := info_parts infoF32
  have hmk : ∀ w0 : World, (Instr.makeSlice 54 (.int .i64 (n : Int)) (.int .i64 (n : Int))).run Try.prog w0 = .ok (.slice (some ⟨w0.heap.size, 0, none⟩) n n) (w0.alloc (.cells (gcells n (fun _ => 0)) 53)) := fun w0 => by
    have h := run_make (P := Try.prog) w0 54 53 u0 (.float .f32 0) Try.underlying54 hu0 hv0 .i64 .i64 (n : Int) (n : Int) (by omega) (Int.le_refl _) (by rw [hv2]; omega) (by omega)
    rw [hv1, Int.toNat_natCast, made_float] at h
    exact h
  rw [show eName 2 = ⟨#[70, 108, 111, 97, 116, 54, 52]⟩ from rfl] at hQ
  have c0 : w.cell? ⟨g, 0, none⟩ = some (.string ⟨#[70, 108, 111, 97, 116, 54, 52]⟩) := hQ.col.cell 0
  have c1 : w.cell? ⟨g, 1, none⟩ = some (.int .i64 (n : Int)) := hQ.col.cell 1
  have c2 : w.cell? ⟨g, 2, none⟩ = some (.int .i64 ((64 : Nat) : Int)) := hQ.col.cell 2
  have c3 : w.cell? ⟨g, 3, none⟩ = some (.int .i64 (nb : Int)) := hQ.col.cell 3
  have c4 : w.cell? ⟨g, 4, none⟩ = some (.slice (some ⟨b0, 0, none⟩) 64 64) := hQ.col.cell 4
  have c5 : w.cell? ⟨g, 5, none⟩ = some (.int .i64 (m : Int)) := hQ.col.cell 5
  have hgl := hQ.col.lt
  have HQ := Lib.hid hQ
  have HP := Lib.hid hP
  have HX := Lib.hid hX
  have HX2 := Lib.hid hX2
  have HF := Lib.hid hF
  have HF2 := Lib.hid hF2
  have HNB := Lib.hid (And.intro hnb hlen)
  have HWN := Lib.hid (Whole.new w 53 (gcells n (fun _ => 0)))
  have HK0 := Lib.hid ((Keeps.refl (fun _ => False) w).alloc (.cells (gcells n (fun _ => 0)) 53))
  have hlt0 : ¬ (r : Int) < 0 := by omega
  have hge : ¬ (m : Int) ≤ (r : Int) := by omega
  clear hQ hP hX hX2 hF hF2 hnb hlen
  go_enter Try.func18, Try.ntmps18
  go_wp2_with fail
  go_loopw [33] (fun s33 wr => ∃ k : Nat, k ≤ n ∧ s33 = .int .i64 k ∧ Hid (Whole wr w.heap.size 53 (gcells n (fun i => if i < k then eOut 2 (X.getD i 0) else 0))) ∧ Hid (Keeps (fun _ => False) w wr)) (fun s33 _ => n - (RowKit.intOf s33).toNat)
  case atStart => exact ⟨0, Nat.zero_le _, rfl, Lib.hid (by rw [gcells_congr (g := fun _ => 0) (fun i _ => if_neg (Nat.not_lt_zero i))]; exact HWN.out), HK0⟩
  case round =>
    clear c0 c1 c2 c3 c4 c5
    obtain ⟨k, hk, rfl, HB, HK⟩ := hrel
    by_cases hlt : k < n
    · obtain ⟨x, hxk⟩ : ∃ x, X[k]? = some x := ⟨_, List.getElem?_eq_getElem (by rw [HX.out]; exact hlt)⟩
      have hxm := List.mem_of_getElem? hxk
      have hgd : X.getD k 0 = x := by simp [hxk]
      have hQ2 := HQ.out.new HK.out
      have c0 : wr.cell? ⟨g, 0, none⟩ = some (.string ⟨#[70, 108, 111, 97, 116, 54, 52]⟩) := hQ2.col.cell 0
      have c2 : wr.cell? ⟨g, 2, none⟩ = some (.int .i64 ((64 : Nat) : Int)) := hQ2.col.cell 2
      have c3 : wr.cell? ⟨g, 3, none⟩ = some (.int .i64 (nb : Int)) := hQ2.col.cell 3
      have c4 : wr.cell? ⟨g, 4, none⟩ = some (.slice (some ⟨b0, 0, none⟩) 64 64) := hQ2.col.cell 4
      have hgl2 := hQ2.col.lt
      have HP2 := Lib.hid (HP.out.new HK.out)
      have HPL := Lib.hid hQ2.pl
      obtain ⟨hnb, hlen⟩ := HNB.out
      obtain ⟨J, hJ⟩ : ∃ J, nb - 1 - k / 8 = J := ⟨_, rfl⟩
      obtain ⟨rn, hrn⟩ : ∃ rn, r * nb = rn := ⟨_, rfl⟩
      have hrn1 : rn + nb ≤ len := by
        rw [← hrn, ← hlen, show r * nb + nb = (r + 1) * nb from (Nat.succ_mul r nb).symm]
        exact Nat.mul_le_mul_right nb hr
      have hlen1 : len ≤ 1300 := by rw [← hlen]; exact Nat.le_trans (Nat.mul_le_mul hm (show nb ≤ 13 by omega)) (by omega)
      have y1 : IntKind.i64.wrap ((nb : Int) - 1) = (nb : Int) - 1 := by rw [IntKind.wrap_i64]; omega
      have y2 : IntKind.i64.wrap ((nb : Int) - 1 - (k : Int) / 8) = (J : Int) := by rw [IntKind.wrap_i64]; omega
      have y3 : IntKind.i64.wrap ((r : Int) * (nb : Int)) = (rn : Int) := wrapMul hrn (by omega)
      have y4 : IntKind.i64.wrap ((rn : Int) + (J : Int)) = ((rn + J : Nat) : Int) := by rw [IntKind.wrap_i64]; omega
      have y5 : rn + J < len := by omega
      have y6 : (0 : Int) ≤ (k : Int) % 8 := by omega
      have y8 : ((k : Int) % 8).toNat = k % 8 := by omega
      obtain ⟨ix, hix⟩ : ∃ ix, rn + J = ix := ⟨_, rfl⟩
      rw [hix] at y4 y5
      have HFX := Lib.hid (fun p (hp : p < 64) => by have h := HF.out p k hp hlt; rw [hJ, hrn, hix, hgd] at h; exact h)
      have HVB := Lib.hid (eBits_lt (e := 2) (by omega) (HX2.out x hxm))
      have hX2 := HX2.out
      obtain ⟨v2, hr1, hr2, hr3⟩ := widen_narrow x (hX2 x hxm).1 (hX2 x hxm).2
      have hv2 : eBits 2 x = v2 := by show (floatToFloatBits .f32 x .f64).getD 0 = v2; rw [hr1]; rfl
      have hext := vx64f (v2 : Int)
      rw [Int.toNat_natCast] at hext
      have hcv := fun W => run_convert_float_float (P := Try.prog) W 77 53 .f64 .f32 v2 x (by kernel_rfl) Try.underlying53 hr3
      clear hr1 hr2 hr3
      have HGD := Lib.hid hgd
      clear hX2 hxk hxm hgd hnb hlen hJ hrn hix hrn1 hlen1 hQ2
      go_wp2_with fail
      go_loopw [51, 9] (fun s51 s9 wp => ∃ p : Nat, p ≤ 64 ∧ s51 = .int .i64 p ∧ s9 = .int .u64 ((eBits 2 x / 2 ^ (64 - p) * 2 ^ (64 - p) : Nat) : Int) ∧ wp = wr) (fun s51 _ _ => 64 - (RowKit.intOf s51).toNat)
      case atStart => exact ⟨0, Nat.zero_le _, rfl, by rw [show eBits 2 x / 2 ^ (64 - 0) = 0 from Nat.div_eq_of_lt HVB.out, Nat.zero_mul]; rfl, rfl⟩
      case round =>
        obtain ⟨p, hp, rfl, rfl, rfl⟩ := hrel
        by_cases hlt2 : p < 64
        · obtain ⟨B, d, hcs, hRd⟩ := HP2.out p hlt2
          obtain ⟨adp, u, rfl, hbp, hu, hcp⟩ := hRd.at' (k := ix) y5
          obtain rfl : u = .int .u8 ((F p ix : Nat) : Int) := by
            rw [Array.getElem?_toList, fcells_get y5] at hu
            injection hu with hu
            exact hu.symm
          have hpc := HPL.out.cell p
          rw [hcs] at hpc
          have hpl := HPL.out.lt
          obtain ⟨acc, hacc⟩ : ∃ acc, eBits 2 x / 2 ^ (64 - p) * 2 ^ (64 - p) = acc := ⟨_, rfl⟩
          rw [hacc]
          have hstep := stepBits (eBits 2 x) (F p ix) (k % 8) (64 - 1 - p) (HF2.out p ix) (Nat.lt_of_lt_of_le HVB.out (by decide)) (by omega) (HFX.out p hlt2)
          rw [show 64 - 1 - p + 1 = 64 - p by omega, hacc, show 64 - 1 - p = 64 - (p + 1) by omega] at hstep
          have HST := Lib.hid hstep
          clear hcs hRd hu hacc hstep
          go_wp2_with fail
          refine ⟨⟨p + 1, by omega, by go_num, congrArg (Value.int .u64) (Eq.trans ?_ HST.out), trivial⟩, (by first | (simp [RowKit.intOf]; done) | (simp [RowKit.intOf]; omega))⟩
          rw [show 64 - (p + 1) = 63 - p by omega]
        · obtain rfl : p = 64 := by omega
          rw [show eBits 2 x / 2 ^ (64 - 64) * 2 ^ (64 - 64) = eBits 2 x by simp]
          have hfz := HB.out.frozen k
          have hc := HB.out.cell k
          rw [gcells_get hlt] at hc
          have hgl3 := HB.out.lt
          have HFN := Lib.hid (show (gcells n (fun i => if i < k then eOut 2 (X.getD i 0) else 0)).setIfInBounds k (.float .f32 (x)) = gcells n (fun i => if i < k + 1 then eOut 2 (X.getD i 0) else 0) by
            rw [gcells_put]
            refine gcells_congr fun i _ => ?_
            by_cases hi : i = k
            · subst hi; rw [if_pos rfl, if_pos (by omega), HGD.out]; rfl
            · rw [if_neg hi]
              by_cases h2 : i < k
              · rw [if_pos h2, if_pos (by omega)]
              · rw [if_neg h2, if_neg (by omega)])
          rw [hv2]
          go_wp2_with fail
          go_roundw
          case rel => exact ⟨k + 1, by omega, by go_num, Lib.hid (by rw [← HFN.out]; exact HB.out.put k _), Lib.hid (HK.out.setCell (p := ⟨w.heap.size, k, none⟩) (.inr (Nat.le_refl _)) _)⟩
          case measure => (first | (simp [RowKit.intOf]; done) | (simp [RowKit.intOf]; omega))
    · obtain rfl : k = n := by omega
      have HFN := Lib.hid (show gcells k (fun i => if i < k then eOut 2 (X.getD i 0) else 0) = gcells k (fun i => eOut 2 (X.getD i 0)) from gcells_congr fun i hi => if_pos hi)
      go_wp2_with fail
      go_ret
      exact ⟨w.heap.size, rfl, Nat.le_refl _, by rw [← HFN.out]; exact HB.out, HK.out⟩
theorem qRow (e : Nat) (he : e < 3) (w : World) (g b0 n nb m len : Nat) (cs : Array Value) (X : List Nat) (r : Nat) (F : Nat → Nat → Nat) (hr : r < m) (hm : m ≤ 100) (hn : n ≤ 100) (hnb : nb = (n + 7) / 8) (hlen : m * nb = len) (hQ : QAt w g b0 (eName e) n (eW e) nb cs m) (hP : PlanesAt w cs (eW e) len F) (hX : X.length = n) (hX2 : ∀ x ∈ X, Fin32 x)
    (hF : ∀ p k, p < eW e → k < n → F p (r * nb + (nb - 1 - k / 8)) / 2 ^ (k % 8) % 2 = eBits e (X.getD k 0) / 2 ^ (eW e - 1 - p) % 2) (hF2 : ∀ p j, F p j < 256) :
    Calls Try.prog 18 #[.pointer (some ⟨g, 0, none⟩), .int .i64 (r : Int)] w fun e' w' => ∃ g', e' = .returned (.slice (some ⟨g', 0, none⟩) n n) ∧ w.heap.size ≤ g' ∧ Whole w' g' 53 (gcells n (fun k => eOut e (X.getD k 0))) ∧ Keeps (fun _ => False) w w' := by
  have h3 : e = 0 ∨ e = 1 ∨ e = 2 := by omega
  rcases h3 with rfl | rfl | rfl
  · exact qRow0 w g b0 n nb m len cs X r F hr hm hn hnb hlen hQ hP hX hX2 hF hF2
  · exact qRow1 w g b0 n nb m len cs X r F hr hm hn hnb hlen hQ hP hX hX2 hF hF2
  · exact qRow2 w g b0 n nb m len cs X r F hr hm hn hnb hlen hQ hP hX hX2 hF hF2
end Go.Proofs.Ytfkokngjclaikaa
