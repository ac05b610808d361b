/- Strings that a reader reads, whatever the bytes are. Conditions: those of the reader; a string's length is at most 1000. -/
import Derived.Test.YthfoleapdmpdfaaDoorRw
namespace Go.Proofs.YthfoleapdmpdfaaDoor
open Go.RowKit Go.Lib
set_option linter.unusedVariables false
/-- The bytes of a string behind its length, and what is left. -/
def cutS (d : List UInt8) : Option (List UInt8 × List UInt8) := match uvGo 10 0 0 d with
  | none => none
  | some (x, l) => if l.length < x then none else some (l.take x, l.drop x)
theorem cutS_some {d l : List UInt8} {x : Nat} (h : uvGo 10 0 0 d = some (x, l)) (hx : x ≤ l.length) : cutS d = some (l.take x, l.drop x) := by
  rw [cutS, h]; exact if_neg (by omega)
theorem cutS_short {d l : List UInt8} {x : Nat} (h : uvGo 10 0 0 d = some (x, l)) (hx : l.length < x) : cutS d = none := by
  rw [cutS, h]; exact if_pos hx
theorem cutS_none {d : List UInt8} (h : uvGo 10 0 0 d = none) : cutS d = none := by rw [cutS, h]
/-- What StrRaw, ReadRaw answer: the internal buffer, or an error. -/
def RawA (w : World) (base rb bb : Nat) (D R : Option Nat) (o : Option (List UInt8 × List UInt8)) (e : Ending) (w' : World) : Prop :=
  (∃ s l A c C k, o = some (s, l) ∧ e = .returned (.tuple #[.slice C s.length k, .nilIface]) ∧ RdrAt w' base rb bb A c l C s.length k (Lib.byteCells s) ∧ (ob A = D ∨ ob A = none) ∧ (ob C = R ∨ ∀ i, ob C = some i → w.heap.size ≤ i) ∧ Keeps (fun i => i = rb ∨ i = bb ∨ R = some i) w w') ∨
  (∃ v l, o = none ∧ e = .returned (.tuple #[.slice none 0 0, v]) ∧ IsErr v ∧ RdrGo w w' base rb bb D R l)
set_option maxRecDepth 100000 in
set_option maxHeartbeats 1000000 in
theorem strRawA (w : World) (base rb bb : Nat) (D R : Option Nat) (d : List UInt8) (hR : RdrOn w base rb bb D R d) (hx : ∀ x l, uvGo 10 0 0 d = some (x, l) → x ≤ 1000) : Calls Tryd.prog 86 #[.pointer (some ⟨rb, 0, none⟩)] w (RawA w base rb bb D R (cutS d)) := by
  have HSTEP := Lib.hid (rwStrLen w base rb bb D R d hR hx)
  have HX := Lib.hid hx
  clear hR hx
  go_enter Tryd.func86, Tryd.ntmps86
  go_wp2_with fail
  refine HSTEP.out.mono ?_
  rintro e w1 (⟨v, l, hd, rfl, hG⟩ | ⟨v, l, hd, rfl, ⟨a, rfl⟩, hG⟩)
  case inr =>
    have hn : uvGo 10 0 0 d = none := Option.map_eq_none_iff.mp hd
    go_wp2_with (first | (go_at_call 68; go_in))
    refine bodyPost_ret (results_tmp2 rfl _ _ _) rfl (.inr ⟨_, l, cutS_none hn, rfl, ⟨_, rfl⟩, hG.after ((Keeps.refl (fun _ => False) _).alloc _)⟩)
  obtain ⟨⟨x, l'⟩, hu, h2⟩ := Option.map_eq_some_iff.mp hd
  injection h2 with h2 h3
  subst h2 h3
  have hle := HX.out x l' hu
  have HU := Lib.hid hu
  clear hd hu
  obtain ⟨R1, hR1, hS1⟩ := hG.on
  by_cases hc : x ≤ l'.length
  · obtain ⟨A, c, C, n, k, q, hA, hD, rfl⟩ := hR1
    have hxl : (l'.take x).length = x := by rw [List.length_take]; omega
    have HRF := Lib.hid (readFull_ok w1 base rb bb A c l' C n k x q hA hc (by omega))
    go_wp2_with fail
    refine HRF.out.mono ?_
    rintro e w2 ⟨A2, c2, C2, k2, rfl, hR2, hK2, hA2, hC2⟩
    have e1 : w2.cell? ⟨rb, 1, none⟩ = some (.pointer (some ⟨bb, 0, none⟩)) := hR2.rdr.cell 1
    have e3 : w2.cell? ⟨bb, 0, none⟩ = some (.slice C2 x k2) := hR2.blk.cell 0
    have e4 := hR2.rdr.lt
    have e5 := hR2.blk.lt
    go_wp2_with fail
    refine bodyPost_ret (results_tmp2 rfl _ _ _) rfl (.inl ⟨l'.take x, l'.drop x, A2, c2, C2, k2, cutS_some HU.out hc, by rw [hxl]; rfl, by rw [hxl]; exact hR2, by rw [hA2]; exact hD, fresh_trans hS1 hC2 hG.keeps.size, hG.keeps.trans hK2 ?_⟩)
    rintro i hi (h | h | h)
    · exact .inl h
    · exact .inr (.inl h)
    · rcases hS1 with h1 | h1
      · exact .inr (.inr (h1 ▸ h))
      · exact absurd (h1 i h) (by omega)
  · have HRF := Lib.hid (readFull_err w1 base rb bb D R1 l' x hR1 (by omega))
    go_wp2_with fail
    refine HRF.out.mono ?_
    rintro e w2 ⟨v, rfl, ⟨a, rfl⟩, hG2⟩
    go_wp2_with (first | (go_at_call 68; go_in))
    refine bodyPost_ret (results_tmp2 rfl _ _ _) rfl (.inr ⟨_, [], cutS_short HU.out (by omega), rfl, ⟨_, rfl⟩, ((RdrGo.trans hS1 hG.keeps hG2).after ((Keeps.refl (fun _ => False) _).alloc _))⟩)
/-- n bytes from the front. -/
def cutR (n : Nat) (d : List UInt8) : Option (List UInt8 × List UInt8) := if d.length < n then none else some (d.take n, d.drop n)
set_option maxRecDepth 100000 in
set_option maxHeartbeats 1000000 in
theorem readRawA (w : World) (base rb bb : Nat) (D R : Option Nat) (d : List UInt8) (hR : RdrOn w base rb bb D R d) (n : Nat) (hn : n ≤ 1000) : Calls Tryd.prog 84 #[.pointer (some ⟨rb, 0, none⟩), .int .i64 n] w (RawA w base rb bb D R (cutR n d)) := by
  by_cases hc : n ≤ d.length
  · obtain ⟨A, c, C, m, k, q, hA, hD, rfl⟩ := hR
    have hxl : (d.take n).length = n := by rw [List.length_take]; omega
    have HRF := Lib.hid (readFull_ok w base rb bb A c d C m k n q hA hc (by omega))
    have hcut : cutR n d = some (d.take n, d.drop n) := if_neg (by omega)
    clear hA
    go_enter Tryd.func84, Tryd.ntmps84
    go_wp2_with fail
    refine HRF.out.mono ?_
    rintro e w2 ⟨A2, c2, C2, k2, rfl, hR2, hK2, hA2, hC2⟩
    have e1 : w2.cell? ⟨rb, 1, none⟩ = some (.pointer (some ⟨bb, 0, none⟩)) := hR2.rdr.cell 1
    have e3 : w2.cell? ⟨bb, 0, none⟩ = some (.slice C2 n k2) := hR2.blk.cell 0
    have e4 := hR2.rdr.lt
    have e5 := hR2.blk.lt
    go_wp2_with fail
    refine bodyPost_ret (results_tmp2 rfl _ _ _) rfl (.inl ⟨d.take n, d.drop n, A2, c2, C2, k2, hcut, by rw [hxl]; rfl, by rw [hxl]; exact hR2, by rw [hA2]; exact hD, hC2, hK2⟩)
  · have HRF := Lib.hid (readFull_err w base rb bb D R d n hR (by omega))
    have hcut : cutR n d = none := if_pos (by omega)
    clear hR
    go_enter Tryd.func84, Tryd.ntmps84
    go_wp2_with fail
    refine HRF.out.mono ?_
    rintro e w2 ⟨v, rfl, ⟨a, rfl⟩, hG2⟩
    go_wp2_with (first | (go_at_call 68; go_in))
    refine bodyPost_ret (results_tmp2 rfl _ _ _) rfl (.inr ⟨_, [], hcut, rfl, ⟨_, rfl⟩, hG2.after ((Keeps.refl (fun _ => False) _).alloc _)⟩)
/-- What Str answers. -/
def fixS (d : List UInt8) : Option (Value × List UInt8) := (cutS d).map fun q => (.string ⟨q.1.toArray⟩, q.2)
set_option maxRecDepth 100000 in
set_option maxHeartbeats 1000000 in
theorem rwStr (w : World) (base rb bb : Nat) (D R : Option Nat) (d : List UInt8) (hR : RdrOn w base rb bb D R d) (hx : ∀ x l, uvGo 10 0 0 d = some (x, l) → x ≤ 1000) : Calls Tryd.prog 83 #[.pointer (some ⟨rb, 0, none⟩)] w (RdStep w base rb bb D R (.string ⟨#[]⟩) (fixS d)) := by
  have HRAW := Lib.hid (strRawA w base rb bb D R d hR hx)
  obtain ⟨A, c, C, n, k, q, hA, _, _⟩ := hR
  have r1 : w.cell? ⟨rb, 1, none⟩ = some (.pointer (some ⟨bb, 0, none⟩)) := hA.rdr.cell 1
  have rl := hA.rdr.lt
  clear hx hA
  go_enter_defers Tryd.func83, Tryd.ntmps83
  go_wp2_with fail
  refine HRAW.out.mono ?_
  rintro e w1 (⟨s, l, A2, c2, C2, k2, ho, rfl, hR2, hD2, hS2, hK2⟩ | ⟨z, l, ho, rfl, ⟨a, rfl⟩, hG⟩)
  · have hstr := run_str_rd (P := Tryd.prog) (c := k2) Tryd.underlying22 Tryd.underlying5 Tryd.underlying9 (Rd.own hR2.own)
    have HO := Lib.hid (show fixS d = some (.string ⟨s.toArray⟩, l) by rw [fixS, ho]; rfl)
    clear ho
    go_wp2_with fail
    refine leaves_cons (f := 34) (args := #[.pointer (some ⟨bb, 0, none⟩)]) (by simp) (by simp [go_sem]) ?_
    refine (resetD w1 bb s.length k2 C2 .returning hR2.blk (own_cap hR2.own) (own_nil hR2.own)).mono ?_
    rintro e u' w'' ⟨rfl, rfl, rfl⟩
    obtain ⟨q', hR3⟩ := hR2.reset
    simp [Leaves, settle, results, Tryd.results83, go_sem]
    refine .inl ⟨_, _, HO.out, rfl, ⟨⟨_, ⟨A2, c2, C2, 0, k2, q', hR3, hD2, rfl⟩, hS2⟩, ?_⟩⟩
    exact hK2.setCell (.inl (.inr (.inl rfl))) _
  · have HO := Lib.hid (show fixS d = none by rw [fixS, ho]; rfl)
    clear ho
    go_wp2_with (first | (go_at_call 68; go_in))
    obtain ⟨R3, hR3, hS3⟩ := hG.on
    obtain ⟨A3, c3, C3, n3, k3, q3, hA3, hD3, rfl⟩ := hR3
    have hgen : ∀ o, RdrAt (w1.alloc o) base rb bb A3 c3 l C3 n3 k3 q3 := fun o => hA3.keeps ((Keeps.refl (fun _ => False) w1).alloc o) (fun h => h) (fun h => h) (fun _ _ h => h) (fun _ _ h => h)
    refine leaves_cons (f := 34) (args := #[.pointer (some ⟨bb, 0, none⟩)]) (by simp) (by simp [go_sem]) ?_
    refine (resetD _ bb n3 k3 C3 .returning (hgen _).blk (own_cap hA3.own) (own_nil hA3.own)).mono ?_
    rintro e u' w'' ⟨rfl, rfl, rfl⟩
    obtain ⟨q', hR4⟩ := (hgen _).reset
    simp [Leaves, settle, results, Tryd.results83, go_sem]
    refine .inr ⟨_, l, HO.out, rfl, ⟨_, rfl⟩, ⟨⟨_, ⟨A3, c3, C3, 0, k3, q', hR4, hD3, rfl⟩, hS3⟩, ?_⟩⟩
    exact (hG.keeps.alloc _).setCell (.inl (.inr (.inl rfl))) _
end Go.Proofs.YthfoleapdmpdfaaDoor
