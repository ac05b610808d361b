/- ColQBit.DecodeColumn: the planes are read one behind the other. Conditions: the bytes are there; the reader was made behind the column. -/
import Derived.Test.YtfkokngjclaikaaVf
import Derived.Test.YtfkokngjclaikaaRaw
import Derived.Test.YtfkokngjclaikaaLf
import Derived.Deep.RegionHeld3
namespace Go.Proofs.Ytfkokngjclaikaa
open Go.RowKit Go.Lib
set_option linter.unusedVariables false
/-- The bytes of a plane. -/
def chunk (len : Nat) (f : Nat → Nat) : List UInt8 := (List.range len).map fun j => UInt8.ofNat (f j)
theorem chunk_length (len : Nat) (f : Nat → Nat) : (chunk len f).length = len := by simp [chunk]
theorem chunk_cells (len : Nat) (f : Nat → Nat) (hf : ∀ j, f j < 256) : Lib.byteCells (chunk len f) = (fcells len f).toList := by
  simp only [fcells, Lib.byteCells, chunk, List.map_map]
  refine List.map_congr_left fun i _ => ?_
  show Value.int .u8 ((UInt8.ofNat _).toNat : Int) = Value.int .u8 _
  rw [UInt8.toNat_ofNat', Nat.mod_eq_of_lt (hf i)]
/-- The planes from k on. -/
def tailB (len : Nat) (F : Nat → Nat → Nat) (k : Nat) : Nat → List UInt8
  | 0 => []
  | t + 1 => chunk len (F k) ++ tailB len F (k + 1) t
theorem tailB_step {len : Nat} {F : Nat → Nat → Nat} {k W : Nat} (h : k < W) : tailB len F k (W - k) = chunk len (F k) ++ tailB len F (k + 1) (W - (k + 1)) := by
  rw [show W - k = (W - (k + 1)) + 1 by omega, tailB]
theorem range_tail (len : Nat) (f : Nat → Nat) : ∀ t k, (List.range (t * len)).map (fun i => UInt8.ofNat (f (k * len + i))) = tailB len (fun p j => f (p * len + j)) k t
  | 0, k => by simp [tailB]
  | t + 1, k => by
    have ih := range_tail len f t (k + 1)
    rw [tailB, ← ih, Nat.add_mul, Nat.one_mul, Nat.add_comm (t * len), List.range_add, List.map_append, chunk]
    congr 1
    rw [List.map_map]
    refine List.map_congr_left fun i _ => ?_
    show UInt8.ofNat (f (k * len + (len + i))) = UInt8.ofNat (f ((k + 1) * len + i))
    congr 2
    rw [Nat.add_mul, Nat.one_mul]; omega
theorem own_empty {w : World} {b base : Nat} (h : Whole w b 5 #[]) (hb : base ≤ b) : w.ownsRow base 5 1 (.slice (some ⟨b, 0, none⟩) 0 0) 0 [] :=
  ⟨rfl, .inr ⟨b, 0, #[], rfl, hb, h, Nat.le_refl _, Nat.zero_le _, rfl, rfl⟩⟩
/-- While the planes are read: k of them are. -/
structure QDec (w0 w : World) (base rb bb : Nat) (D R : Option Nat) (g b0 : Nat) (nm : ByteArray) (n W nb len k : Nat) (cs : Array Value) (F : Nat → Nat → Nat) (rest : List UInt8) : Prop where
  q : QAt w g b0 nm n W nb cs 0
  rdr : RdrOn w base rb bb D R (tailB len F k (W - k) ++ rest)
  done : ∀ p, p < k → ∃ A d, cs[p]? = some (.slice A len d) ∧ w.ownsRow (b0 + 1) 5 1 (.slice A len d) len (fcells len (F p)).toList ∧ ∀ i, ob A = some i → i = b0 + 1 + p ∨ (base ≤ i ∧ i ≠ rb ∧ i ≠ bb ∧ R ≠ some i)
  todo : ∀ p, k ≤ p → p < W → cs[p]? = some (.slice (some ⟨b0 + 1 + p, 0, none⟩) 0 0) ∧ Whole w (b0 + 1 + p) 5 #[]
  kp : Keeps (fun i => b0 ≤ i) w0 w
section
variable {w0 w w' : World} {base rb bb : Nat} {D R : Option Nat} {g b0 : Nat} {nm : ByteArray} {n W nb len k : Nat} {cs : Array Value} {F : Nat → Nat → Nat} {rest : List UInt8}
/-- What must hold of the places. -/
structure QPre (base : Nat) (D : Option Nat) (g b0 W : Nat) : Prop where
  gb : g = b0 + 1 + W
  lo : g < base
  d : ∀ i, D = some i → i < b0
theorem QDec.go {l : List UInt8} (hp : QPre base D g b0 W) (h : QDec w0 w base rb bb D R g b0 nm n W nb len k cs F rest) (hb : base ≤ w.heap.size) (hlt : k < W) (hl : l = tailB len F (k + 1) (W - (k + 1)) ++ rest) (hG : RdrGo w w' base rb bb D R l) :
    ∃ R', RdrOn w' base rb bb D R' l ∧ QAt w' g b0 nm n W nb cs 0 ∧ (∀ p, p < k → ∃ A d, cs[p]? = some (.slice A len d) ∧ w'.ownsRow (b0 + 1) 5 1 (.slice A len d) len (fcells len (F p)).toList ∧ ∀ i, ob A = some i → i = b0 + 1 + p ∨ (base ≤ i ∧ i ≠ rb ∧ i ≠ bb ∧ R' ≠ some i)) ∧
      (∀ p, k ≤ p → p < W → cs[p]? = some (.slice (some ⟨b0 + 1 + p, 0, none⟩) 0 0) ∧ Whole w' (b0 + 1 + p) 5 #[]) ∧ Keeps (fun i => b0 ≤ i) w0 w' := by
  obtain ⟨R', hR', hS⟩ := hG.on
  obtain ⟨f1, f2, f3, f4, f5⟩ := h.rdr.facts
  have hgb := hp.gb
  have hlo := hp.lo
  have hk := hG.keeps
  have nlow : ∀ i, i ≤ g → ¬ (i = rb ∨ i = bb ∨ R = some i) := by
    rintro i hi (e | e | e)
    · omega
    · omega
    · have := (f5 i e).1; omega
  refine ⟨R', hR', ⟨h.q.col.keeps hk (nlow g (Nat.le_refl _)), h.q.pl.keeps hk (nlow b0 (by omega)), h.q.sz⟩, fun p hpk => ?_, fun p h1 h2 => ?_, h.kp.trans hk (fun i hi e => ?_)⟩
  · obtain ⟨A, d, e1, e2, e3⟩ := h.done p hpk
    have hlt2 := e2.lt
    rw [ownBlock_slice] at hlt2
    refine ⟨A, d, e1, own_keeps e2 hk (fun i hi => ?_), fun i hi => ?_⟩
    · rw [ownBlock_slice] at hi
      rcases e3 i hi with e | ⟨_, e5, e6, e7⟩
      · exact nlow i (by omega)
      · rintro (h | h | h)
        · exact e5 h
        · exact e6 h
        · exact e7 h
    · rcases e3 i hi with e | ⟨e4, e5, e6, e7⟩
      · exact .inl e
      · refine .inr ⟨e4, e5, e6, ?_⟩
        rcases hS with rfl | hS
        · exact e7
        · intro h
          have h3 := hS i h
          have h4 := (hlt2 i hi).2
          omega
  · obtain ⟨e1, e2⟩ := h.todo p h1 h2
    exact ⟨e1, e2.keeps hk (nlow _ (by omega))⟩
  · rcases e with e | e | e
    · omega
    · omega
    · have := (f5 i e).1; omega
theorem qdec_put {w1 w5 : World} {A' : Option Addr} {c' : Nat} (hp : QPre base D g b0 W) (hlt : k < W) (hb : base ≤ w1.heap.size) (hQ : QAt w1 g b0 nm n W nb cs 0)
    (hd : ∀ p, p < k → ∃ A d, cs[p]? = some (.slice A len d) ∧ w1.ownsRow (b0 + 1) 5 1 (.slice A len d) len (fcells len (F p)).toList ∧ ∀ i, ob A = some i → i = b0 + 1 + p ∨ (base ≤ i ∧ i ≠ rb ∧ i ≠ bb ∧ R ≠ some i))
    (ht : ∀ p, k ≤ p → p < W → cs[p]? = some (.slice (some ⟨b0 + 1 + p, 0, none⟩) 0 0) ∧ Whole w1 (b0 + 1 + p) 5 #[]) (hk : Keeps (fun i => b0 ≤ i) w0 w1) (hR : RdrOn w1 base rb bb D R (tailB len F (k + 1) (W - (k + 1)) ++ rest))
    (hg : w1.drew.grownBy w5 (ob (some (⟨b0 + 1 + k, 0, none⟩ : Addr)))) (hat : ob A' = ob (some (⟨b0 + 1 + k, 0, none⟩ : Addr)) ∨ ob A' = some w1.drew.heap.size) (ho : w5.ownsRow (b0 + 1) 5 1 (.slice A' len c') len (fcells len (F k)).toList) :
    QDec w0 (w5.setCell ⟨b0, k, none⟩ (.slice A' len c')) base rb bb D R g b0 nm n W nb len (k + 1) (cs.setIfInBounds k (.slice A' len c')) F rest := by
  have KU : Keeps (fun i => i = b0 + 1 + k) w1 w5 := (Keeps.refl (fun i => i = b0 + 1 + k) w1).drew.grown hg (fun i hi => .inl (by injection hi with hi; exact hi.symm))
  have KS : Keeps (fun i => i = b0) w5 (w5.setCell ⟨b0, k, none⟩ (.slice A' len c')) := (Keeps.refl (fun i => i = b0) w5).setCell (p := ⟨b0, k, none⟩) (.inl rfl) _
  obtain ⟨f1, f2, f3, f4, f5⟩ := hR.facts
  have hgb := hp.gb
  have hlo := hp.lo
  have hat2 : ∀ i, ob A' = some i → i = b0 + 1 + k ∨ i = w1.heap.size := fun i hi => by
    rcases hat with e | e
    · rw [e] at hi; injection hi with hi; exact .inl hi.symm
    · rw [e] at hi; injection hi with hi; exact .inr hi.symm
  refine ⟨⟨(hQ.col.keeps KU (by omega)).keeps KS (by omega), (hQ.pl.keeps KU (by omega)).put k _, by rw [Array.size_setIfInBounds]; exact hQ.sz⟩, ?_, fun p hpk => ?_, fun p h1 h2 => ?_, (hk.trans KU (fun i _ e => by omega)).trans KS (fun i _ e => by omega)⟩
  · refine (hR.keeps KU (by omega) (by omega) (fun i hi e => by have := (f5 i hi).1; omega) (fun i hi e => by have := hp.d i hi; omega)).keeps KS (by omega) (by omega) (fun i hi e => by have := (f5 i hi).1; omega) (fun i hi e => by have := hp.d i hi; omega)
  · by_cases hpk2 : p = k
    · subst hpk2
      refine ⟨A', c', Array.getElem?_setIfInBounds_self_of_lt (by rw [hQ.sz]; exact hlt), own_keeps ho KS (fun i hi e => ?_), fun i hi => ?_⟩
      · rw [ownBlock_slice] at hi
        rcases hat2 i hi with e2 | e2 <;> omega
      · rcases hat2 i hi with e2 | e2
        · exact .inl e2
        · refine .inr ⟨by omega, by omega, by omega, fun e3 => ?_⟩
          have := (f5 i e3).2
          omega
    · obtain ⟨A, d, e1, e2, e3⟩ := hd p (by omega)
      refine ⟨A, d, by rw [Array.getElem?_setIfInBounds_ne (by omega)]; exact e1, own_keeps (own_keeps e2 KU (fun i hi e => ?_)) KS (fun i hi e => ?_), e3⟩
      · rw [ownBlock_slice] at hi
        rcases e3 i hi with e4 | ⟨e4, _⟩ <;> omega
      · rw [ownBlock_slice] at hi
        rcases e3 i hi with e4 | ⟨e4, _⟩ <;> omega
  · obtain ⟨e1, e2⟩ := ht p (by omega) h2
    exact ⟨by rw [Array.getElem?_setIfInBounds_ne (by omega)]; exact e1, (e2.keeps KU (by omega)).keeps KS (by omega)⟩
theorem f_one (len : Nat) (f : Nat → Nat) : ∀ u ∈ (fcells len f).toList, u.oneCell' = true := by
  intro u hu
  simp only [fcells, List.mem_map] at hu
  obtain ⟨i, _, rfl⟩ := hu
  rfl
end
set_option maxRecDepth 100000 in
set_option maxHeartbeats 8000000 in
theorem qDecode (w : World) (base rb bb : Nat) (D : Option Nat) (g b0 : Nat) (nm : ByteArray) (n W nb m len : Nat) (cs : Array Value) (F : Nat → Nat → Nat) (rest : List UInt8) (hpre : QPre base D g b0 W) (hbw : base ≤ w.heap.size) (hm0 : 0 < m) (hm : m ≤ 100) (hnb : nb ≤ 13) (hW : W ≤ 64) (hlen : m * nb = len) (hl0 : 0 < len)
    (hF2 : ∀ p j, F p j < 256) (hQ : QAt w g b0 nm n W nb cs 0) (hP : ∀ p, p < W → cs[p]? = some (.slice (some ⟨b0 + 1 + p, 0, none⟩) 0 0) ∧ Whole w (b0 + 1 + p) 5 #[]) (hR : RdrOn w base rb bb D none (tailB len F 0 W ++ rest)) :
    Calls Try.prog 15 #[.pointer (some ⟨g, 0, none⟩), .pointer (some ⟨rb, 0, none⟩), .int .i64 (m : Int)] w fun e' w' => ∃ cs' R', e' = .returned .nilIface ∧ QAt w' g b0 nm n W nb cs' m ∧ PlanesAt w' cs' W len F ∧ RdrOn w' base rb bb D R' rest ∧ Keeps (fun i => b0 ≤ i) w w' := by
  obtain ⟨u0, hu0, hv0, hv1, hv2⟩ := info_parts infoByteB
  have y1 := wrapMul hlen (by
    rw [← hlen]
    exact Nat.le_trans (Nat.mul_le_mul hm hnb) (by omega))
  have hlen1 : len ≤ 1300 := by rw [← hlen]; exact Nat.le_trans (Nat.mul_le_mul hm hnb) (by omega)
  have y2 : ((m : Int) == 0) = false := by simp; omega
  have c2 : w.cell? ⟨g, 2, none⟩ = some (.int .i64 (W : Int)) := hQ.col.cell 2
  have hgl := hQ.col.lt
  have H0 := Lib.hid (show QDec w w base rb bb D none g b0 nm n W nb len 0 cs F rest from ⟨hQ, hR, fun p h => absurd h (by omega), fun p _ h => hP p h, Keeps.refl _ _⟩)
  have HPRE := Lib.hid hpre
  have HF2 := Lib.hid hF2
  have HBW := Lib.hid hbw
  clear hpre hbw hF2 hQ hP hR hlen
  go_enter Try.func15, Try.ntmps15
  go_wp2_with fail
  go_loopw [16] (fun s16 wr => ∃ (k : Nat) (cs' : Array Value) (R' : Option Nat), k ≤ W ∧ s16 = .int .i64 k ∧ Hid (QDec w wr base rb bb D R' g b0 nm n W nb len k cs' F rest)) (fun s16 _ => W - (RowKit.intOf s16).toNat)
  case atStart => exact ⟨0, cs, none, Nat.zero_le _, rfl, H0⟩
  case round =>
    clear c2 hgl
    obtain ⟨k, cs1, R1, hk, rfl, HD⟩ := hrel
    have c2 : wr.cell? ⟨g, 2, none⟩ = some (.int .i64 (W : Int)) := HD.out.q.col.cell 2
    have c3 : wr.cell? ⟨g, 3, none⟩ = some (.int .i64 (nb : Int)) := HD.out.q.col.cell 3
    have hgl := HD.out.q.col.lt
    by_cases hlt : k < W
    · have HRR := Lib.hid (readRaw_ok wr base rb bb D R1 (chunk len (F k)) (tailB len F (k + 1) (W - (k + 1)) ++ rest) len (chunk_length _ _) (by have h := HD.out.rdr; rw [tailB_step hlt, List.append_assoc] at h; exact h) (by omega))
      go_wp2_with fail
      refine HRR.out.mono ?_
      rintro e' w1 ⟨A1, d1, rfl, hown1, hG⟩
      obtain ⟨R2, hR2, hQ2, hdone, htodo, hkp⟩ := HD.out.go HPRE.out (Nat.le_trans HBW.out HD.out.kp.size) hlt rfl hG
      have HR2 := Lib.hid hR2
      have HQ2 := Lib.hid hQ2
      have HDONE := Lib.hid hdone
      have HTODO := Lib.hid htodo
      have HKP := Lib.hid hkp
      have hrd1 := Rd.own hown1
      rw [chunk_cells _ _ (HF2.out k)] at hrd1
      have HRD1 := Lib.hid hrd1
      clear hR2 hQ2 hdone htodo hkp hown1 hG hrd1 c2 c3 hgl
      have d4 : w1.cell? ⟨g, 4, none⟩ = some (.slice (some ⟨b0, 0, none⟩) W W) := HQ2.out.col.cell 4
      have dk : w1.cell? ⟨b0, k, none⟩ = some (.slice (some ⟨b0 + 1 + k, 0, none⟩) 0 0) := by
        rw [HQ2.out.pl.cell k]; exact (HTODO.out k (Nat.le_refl _) hlt).1
      have hgl := HQ2.out.col.lt
      have hbl := HQ2.out.pl.lt
      have HE := Lib.hid (own_empty (base := b0 + 1) (HTODO.out k (Nat.le_refl _) hlt).2 (by omega))
      have hb1 : b0 + 1 ≤ w1.heap.size := by omega
      have hb0 : b0 < w1.heap.size := hbl
      have hWk : (k : Int) < (W : Int) := by omega
      go_wp2_with fail
      have d4' : w1.drew.cell? ⟨g, 4, none⟩ = some (.slice (some ⟨b0, 0, none⟩) W W) := d4
      have dk' : w1.drew.cell? ⟨b0, k, none⟩ = some (.slice (some ⟨b0 + 1 + k, 0, none⟩) 0 0) := dk
      go_region_law (first
        | (refine step_append_rd _ rfl (.tmp 48) (.tmp 49) _ rfl (b0 + 1) 5 u0 _ 1 1 Try.underlying23 hu0 hv0 hv1 hv2 rfl Nat.one_pos (some ⟨b0 + 1 + k, 0, none⟩) 0 0 [] rfl HE.out.drew A1 len d1 _ rfl HRD1.out.drew (f_one _ _) (by simp only [maxLen]; omega) (by omega) hb1 ?_
           intro A' c' w5 o5 hg5 hat5
           have KU : Keeps (fun i => i = b0 + 1 + k) w1 w5 := (Keeps.refl (fun i => i = b0 + 1 + k) w1).drew.grown hg5 (fun i hi => .inl (by injection hi with hi; exact hi.symm))
           have hQ5 := HQ2.out.pl.keeps KU (by omega)
           have hC5 := HQ2.out.col.keeps KU (by have := HPRE.out.gb; omega)
           have e4 : w5.cell? ⟨g, 4, none⟩ = some (.slice (some ⟨b0, 0, none⟩) W W) := hC5.cell 4
           have ek : w5.cell? ⟨b0, k, none⟩ = some (.slice (some ⟨b0 + 1 + k, 0, none⟩) 0 0) := by rw [hQ5.cell k]; exact (HTODO.out k (Nat.le_refl _) hlt).1
           have ef : w5.frozen? ⟨b0, k, none⟩ = false := hQ5.frozen k
           have el := hQ5.lt
           have HG5 := Lib.hid hg5
           have HO5 := Lib.hid o5
           have HAT5 := Lib.hid hat5))
      all_goals
        clear d4 dk d4' dk' e4 KU hQ5 hC5 o5 hg5 hat5
        go_wp2_with fail
        go_roundw
        case rel =>
          have ho := HO5.out
          rw [Nat.zero_add, List.nil_append] at ho
          have hfin := qdec_put HPRE.out hlt (Nat.le_trans HBW.out (by have := HKP.out.size; exact this)) HQ2.out HDONE.out HTODO.out HKP.out HR2.out HG5.out HAT5.out ho
          exact ⟨k + 1, _, R2, by omega, by go_num, Lib.hid hfin⟩
        case measure => (first | (simp [RowKit.intOf]; done) | (simp [RowKit.intOf]; omega))
    · obtain rfl : k = W := by omega
      have c5 : wr.cell? ⟨g, 5, none⟩ = some (.int .i64 0) := HD.out.q.col.cell 5
      have f5 : wr.frozen? ⟨g, 5, none⟩ = false := HD.out.q.col.frozen 5
      have hm2 : IntKind.i64.wrap (m : Int) = (m : Int) := by rw [IntKind.wrap_i64]; omega
      go_wp2_with fail
      go_ret
      have hD := HD.out
      have KS : Keeps (fun i => i = g) wr (wr.setCell ⟨g, 5, none⟩ (.int .i64 (m : Int))) := (Keeps.refl (fun i => i = g) wr).setCell (p := ⟨g, 5, none⟩) (.inl rfl) _
      obtain ⟨f1, f2, f3, f4, f5⟩ := hD.rdr.facts
      have hgb := HPRE.out.gb
      have hlo := HPRE.out.lo
      have hrdr := hD.rdr
      rw [Nat.sub_self] at hrdr
      refine ⟨cs1, R1, rfl, ⟨hD.q.col.put 5 _, hD.q.pl.far (p := ⟨g, 5, none⟩) (by show b0 ≠ g; omega) _, hD.q.sz⟩, fun p hp => ?_, hrdr.keeps KS (by omega) (by omega) (fun i hi e => by have := (f5 i hi).1; omega) (fun i hi e => by have := HPRE.out.d i hi; omega), hD.kp.trans KS (fun i _ e => by omega)⟩
      obtain ⟨A, d, e1, e2, e3⟩ := hD.done p hp
      refine ⟨A, d, e1, Rd.own (own_keeps e2 KS (fun i hi e => ?_))⟩
      rw [ownBlock_slice] at hi
      rcases e3 i hi with e4 | ⟨e4, _⟩ <;> omega
end Go.Proofs.Ytfkokngjclaikaa
