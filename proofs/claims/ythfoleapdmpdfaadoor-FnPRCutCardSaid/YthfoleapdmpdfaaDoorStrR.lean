/- Strings read by a reader, where the bytes may be cut. Conditions as in the text of the reader; a string's length far below the machine's. -/
import Derived.Test.YthfoleapdmpdfaaDoorUvs
import Derived.Test.YthfoleapdmpdfaaDoorStr
import Derived.Test.YthfoleapdmpdfaaDoorCut
import Derived.Defers
namespace Go.Proofs.YthfoleapdmpdfaaDoor
open Go.RowKit Go.Lib

/-- What reading a string's bytes comes to. -/
def RawStep (w : World) (base rb bb : Nat) (D R : Option Nat) (s : ByteArray) (d : List UInt8) (m : Nat) (e : Ending) (w' : World) : Prop :=
  (∃ m' A c C k, m = (strB s).length + m' ∧ e = .returned (.tuple #[.slice C s.size k, .nilIface]) ∧ RdrAt w' base rb bb A c (d.take m') C s.size k (Lib.byteCells (sl s)) ∧ (ob A = D ∨ ob A = none) ∧ (ob C = R ∨ ∀ i, ob C = some i → w.heap.size ≤ i) ∧ Keeps (fun i => i = rb ∨ i = bb ∨ R = some i) w w') ∨
  (m < (strB s).length ∧ ∃ v l, e = .returned (.tuple #[.slice none 0 0, v]) ∧ IsErr v ∧ RdrGo w w' base rb bb D R l)

set_option maxRecDepth 100000 in
set_option maxHeartbeats 1000000 in
theorem strRaw (w : World) (base rb bb : Nat) (D R : Option Nat) (s : ByteArray) (m : Nat) (d : List UInt8) (hs : s.size ≤ 2147483647) (hR : RdrOn w base rb bb D R ((strB s ++ d).take m)) :
    Calls Tryd.prog 86 #[.pointer (some ⟨rb, 0, none⟩)] w fun e w' => RawStep w base rb bb D R s d m e w' := by
  have hR' : RdrOn w base rb bb D R ((Lib.uvarint s.size ++ (sl s ++ d)).take m) := by
    rw [strB, List.append_assoc] at hR; exact hR
  have hx1 : (s.size : Int) ≤ 2147483647 := by omega
  have hx0 : (0 : Int) ≤ (s.size : Int) := by omega
  have HSTEP := Lib.hid (uv_step w base rb bb D R s.size m (sl s ++ d) (by omega) hR')
  have hlen : (strB s).length = (Lib.uvarint s.size).length + s.size := by rw [strB, List.length_append, sl_length]
  have HS := Lib.hid hs
  have HLEN := Lib.hid hlen
  clear hs hR hR' hlen
  go_enter Tryd.func86, Tryd.ntmps86
  go_wp2_with (first | (go_at_call 82; go_in) | (go_at_call 81; go_in))
  refine HSTEP.out.mono ?_
  intro e w1 hst
  rcases hst with ⟨m1, hm1, rfl, hG⟩ | ⟨hm, z, l, rfl, ⟨a, rfl⟩, hG⟩
  case inr =>
    go_wp2_with (first | (go_at_call 68; go_in))
    refine bodyPost_ret (results_tmp2 rfl _ _ _) rfl (.inr ⟨by have := HLEN.out; omega, _, l, rfl, ⟨_, rfl⟩, hG.after ((((Keeps.refl (fun _ => False) _).alloc _).alloc _).alloc _)⟩)
  obtain ⟨R1, hR1, hS1⟩ := hG.on
  by_cases hc : s.size ≤ m1
  · obtain ⟨m2, rfl⟩ : ∃ m2, m1 = s.size + m2 := ⟨m1 - s.size, by omega⟩
    have hlist : (sl s ++ d).take (s.size + m2) = sl s ++ d.take m2 := by
      rw [List.take_append, List.take_of_length_le (by rw [sl_length]; omega), sl_length, Nat.add_sub_cancel_left]
    rw [hlist] at hR1
    obtain ⟨A, c, C, n, k, q, hA, hD, rfl⟩ := hR1
    have hrf := readFull_ok w1 base rb bb A c (sl s ++ d.take m2) C n k s.size q hA (by rw [List.length_append, sl_length]; omega) (by have := HS.out; omega)
    rw [List.drop_left' (sl_length s), List.take_left' (sl_length s)] at hrf
    have HRF := Lib.hid hrf
    clear hrf hlist
    go_wp2_with fail
    refine HRF.out.mono ?_
    rintro e w2 ⟨A2, c2, C2, k2, rfl, hR2, hK2, hA2, hC2⟩
    have e1 : w2.cell? ⟨rb, 1, none⟩ = some (.pointer (some ⟨bb, 0, none⟩)) := hR2.rdr.cell 1
    have e3 : w2.cell? ⟨bb, 0, none⟩ = some (.slice C2 s.size k2) := hR2.blk.cell 0
    have e4 := hR2.rdr.lt
    have e5 := hR2.blk.lt
    go_wp2_with fail
    refine bodyPost_ret (results_tmp2 rfl _ _ _) rfl (.inl ⟨m2, A2, c2, C2, k2, by have := HLEN.out; omega, rfl, hR2, by rw [hA2]; exact hD, fresh_trans hS1 hC2 hG.keeps.size, hG.keeps.trans hK2 ?_⟩)
    rintro i hi (h | h | h)
    · exact .inl h
    · exact .inr (.inl h)
    · rcases hS1 with h1 | h1
      · exact .inr (.inr (h1 ▸ h))
      · exact absurd (h1 i h) (by omega)
  · have hlist : ((sl s ++ d).take m1).length < s.size := by rw [List.length_take]; omega
    have HRF := Lib.hid (readFull_err w1 base rb bb D R1 _ s.size hR1 hlist)
    clear hlist
    go_wp2_with fail
    refine HRF.out.mono ?_
    rintro e w2 ⟨v, rfl, ⟨a, rfl⟩, hG2⟩
    go_wp2_with (first | (go_at_call 68; go_in))
    refine bodyPost_ret (results_tmp2 rfl _ _ _) rfl (.inr ⟨by have := HLEN.out; omega, _, [], rfl, ⟨_, rfl⟩, ((RdrGo.trans hS1 hG.keeps hG2).after ((Keeps.refl (fun _ => False) _).alloc _))⟩)

set_option maxRecDepth 100000 in
set_option maxHeartbeats 400000 in
theorem resetD (w : World) (bb n k : Nat) (C : Option Addr) (u : FrameMode) (hW : Whole w bb 63 #[.slice C n k]) (hn : n ≤ k) (hC : C = none → k = 0) :
    CallsD Tryd.prog 34 #[.pointer (some ⟨bb, 0, none⟩)] u w fun e u' w' => u' = u ∧ (e = .returned (.tuple #[]) ∧ w' = w.setCell ⟨bb, 0, none⟩ (.slice C 0 k)) := by
  have hlt := hW.lt
  have c0 : w.cell? ⟨bb, 0, none⟩ = some (.slice C n k) := hW.cell 0
  have f0 := hW.frozen 0
  rcases C with _ | ad
  · obtain rfl := hC rfl
    go_enter_d Tryd.func34, Tryd.ntmps34
    go_wp2
    go_end0
    exact ⟨rfl, rfl⟩
  · have hk : (0 : Int) ≤ (k : Int) := by omega
    go_enter_d Tryd.func34, Tryd.ntmps34
    go_wp2
    go_end0
    exact ⟨rfl, rfl⟩

theorem RdrAt.reset {w : World} {base rb bb : Nat} {A : Option Addr} {c : Nat} {d : List UInt8} {C : Option Addr} {n k : Nat} {q : List Value} (h : RdrAt w base rb bb A c d C n k q) :
    ∃ q', RdrAt (w.setCell ⟨bb, 0, none⟩ (.slice C 0 k)) base rb bb A c d C 0 k q' := by
  have hk : Keeps (fun i => i = bb) w (w.setCell ⟨bb, 0, none⟩ (.slice C 0 k)) := (Keeps.refl (fun i => i = bb) w).setCell (.inl rfl) _
  obtain ⟨f1, f2, f3⟩ := h.farC
  obtain ⟨q', hq⟩ := own_reslice h.own (m := 0) (Nat.zero_le _)
  refine ⟨q', ⟨h.rdr.keeps hk f3, h.blk.put 0 _, own_keeps hq hk (by rw [ownBlock_slice]; rintro i hi rfl; exact f2 hi), h.data.keeps hk (fun i hi => (h.sep i hi).2.1), h.cap, h.lo1, h.lo2, fun i hi => ?_⟩⟩
  obtain ⟨a, b, e, f⟩ := h.sep i hi
  exact ⟨a, b, e, Nat.lt_of_lt_of_le f hk.size⟩
theorem own_nil {w : World} {base k n : Nat} {e : TypeId} {C : Option Addr} {q : List Value} (h : w.ownsRow base e 1 (.slice C n k) n q) : C = none → k = 0 := by
  rintro rfl
  rcases h.2 with ⟨h', _⟩ | ⟨g, cap, cur, h', _⟩
  · injection h'
  · injection h' with h1; cases h1

/-- What reading a string comes to. -/
def StrStep (w : World) (base rb bb : Nat) (D R : Option Nat) (s : ByteArray) (d : List UInt8) (m : Nat) (e : Ending) (w' : World) : Prop :=
  (∃ m', m = (strB s).length + m' ∧ e = .returned (.tuple #[.string s, .nilIface]) ∧ RdrGo w w' base rb bb D R (d.take m')) ∨
  (m < (strB s).length ∧ ∃ v l, e = .returned (.tuple #[.string ⟨#[]⟩, v]) ∧ IsErr v ∧ RdrGo w w' base rb bb D R l)

set_option maxRecDepth 100000 in
set_option maxHeartbeats 1000000 in
theorem strStep (w : World) (base rb bb : Nat) (D R : Option Nat) (s : ByteArray) (m : Nat) (d : List UInt8) (hs : s.size ≤ 2147483647) (hR : RdrOn w base rb bb D R ((strB s ++ d).take m)) :
    Calls Tryd.prog 83 #[.pointer (some ⟨rb, 0, none⟩)] w fun e w' => StrStep w base rb bb D R s d m e w' := by
  have HRAW := Lib.hid (strRaw w base rb bb D R s m d hs hR)
  obtain ⟨A, c, C, n, k, q, hA, _, _⟩ := hR
  have r1 : w.cell? ⟨rb, 1, none⟩ = some (.pointer (some ⟨bb, 0, none⟩)) := hA.rdr.cell 1
  have rl := hA.rdr.lt
  clear hs hA
  go_enter_defers Tryd.func83, Tryd.ntmps83
  go_wp2_with fail
  refine HRAW.out.mono ?_
  intro e w1 hst
  rcases hst with ⟨m2, A2, c2, C2, k2, hm, rfl, hR2, hD2, hS2, hK2⟩ | ⟨hm, z, l, rfl, ⟨a, rfl⟩, hG⟩
  · have hstr := run_str_rd (P := Tryd.prog) (c := k2) Tryd.underlying22 Tryd.underlying5 Tryd.underlying9 (Rd.own hR2.own)
    rw [sl_back] at hstr
    go_wp2_with fail
    refine leaves_cons (f := 34) (args := #[.pointer (some ⟨bb, 0, none⟩)]) (by simp) (by simp [go_sem]) ?_
    refine (resetD w1 bb s.size k2 C2 .returning hR2.blk (own_cap hR2.own) (own_nil hR2.own)).mono ?_
    rintro e u' w'' ⟨rfl, rfl, rfl⟩
    obtain ⟨q', hR3⟩ := hR2.reset
    simp [Leaves, settle, results, Tryd.results83, go_sem]
    refine .inl ⟨m2, hm, rfl, ⟨⟨_, ⟨A2, c2, C2, 0, k2, q', hR3, hD2, rfl⟩, hS2⟩, ?_⟩⟩
    exact hK2.setCell (.inl (.inr (.inl rfl))) _
  · go_wp2_with (first | (go_at_call 68; go_in))
    obtain ⟨R3, hR3, hS3⟩ := hG.on
    obtain ⟨A3, c3, C3, n3, k3, q3, hA3, hD3, rfl⟩ := hR3
    have hgen : ∀ o, RdrAt (w1.alloc o) base rb bb A3 c3 l C3 n3 k3 q3 := fun o => hA3.keeps ((Keeps.refl (fun _ => False) w1).alloc o) (fun h => h) (fun h => h) (fun _ _ h => h) (fun _ _ h => h)
    refine leaves_cons (f := 34) (args := #[.pointer (some ⟨bb, 0, none⟩)]) (by simp) (by simp [go_sem]) ?_
    refine (resetD _ bb n3 k3 C3 .returning (hgen _).blk (own_cap hA3.own) (own_nil hA3.own)).mono ?_
    rintro e u' w'' ⟨rfl, rfl, rfl⟩
    obtain ⟨q', hR4⟩ := (hgen _).reset
    simp [Leaves, settle, results, Tryd.results83, go_sem]
    refine .inr ⟨hm, _, l, rfl, ⟨_, rfl⟩, ⟨⟨_, ⟨A3, c3, C3, 0, k3, q', hR4, hD3, rfl⟩, hS3⟩, ?_⟩⟩
    exact (hG.keeps.alloc _).setCell (.inl (.inr (.inl rfl))) _
end Go.Proofs.YthfoleapdmpdfaaDoor
