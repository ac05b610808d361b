/- laws.prAsks: what asks for values that were put, and what is wanted of them. Conditions: the values are such as are put; the table of widths is laid. -/
import Derived.Test.YthfoleapdmpdfaaDoorQh
import Derived.Test.YthfoleapdmpdfaaDoorPsB
import Derived.Deep.CutRange
import Derived.Deep.LoopGhost
import Derived.Deep.RegionHeld3
import Derived.Deep.CutBlock
namespace Go.Proofs.YthfoleapdmpdfaaDoor
open Go.RowKit Go.Lib
set_option linter.unusedVariables false
theorem rdGP {w w' : World} {row : Option Addr} {A : Option Addr} {size n : Nat} {xs : List Value} (hg : w.grownBy w' (ob row)) (h : Rd w size A n xs) (hr : ∀ z, ob A = some z → ob row ≠ some z) : Rd w' size A n xs :=
  h.keeps (S := fun i => ob row = some i) ((Keeps.refl _ w).grown hg (fun k hk => .inl hk)) (fun k hk => hr k hk)
theorem oneA (A : Option Addr) (n c : Nat) (op u v : Int) : ∀ x ∈ [Value.int .i64 op, .int .u64 u, .int .u64 v, .slice A n c], x.oneCell' = true := by
  intro x hx
  simp only [List.mem_cons, List.not_mem_nil, or_false] at hx
  rcases hx with rfl | rfl | rfl | rfl <;> rfl
theorem infoPrimE : (Tryd.prog.info? 28).map (fun i => (i.zero, i.size, i.bytes)) = some (some (.agg #[.int .i64 0, .int .u64 0, .int .u64 0, .slice none 0 0]), 4, 48) := by kernel_rfl
/-- Two variables, four cells each. -/
structure TwoV (w : World) (b c : Nat) (x0 x1 x2 x3 y0 y1 y2 y3 : Value) : Prop where
  g : Whole w b 34 #[x0, x1, x2, x3]
  a : Whole w c 28 #[y0, y1, y2, y3]
section
variable {w w' : World} {b c : Nat} {x0 x1 x2 x3 y0 y1 y2 y3 : Value}
theorem TwoV.cells (h : TwoV w b c x0 x1 x2 x3 y0 y1 y2 y3) : w.cell? ⟨b, 0, none⟩ = some x0 ∧ w.cell? ⟨b, 1, none⟩ = some x1 ∧ w.cell? ⟨b, 2, none⟩ = some x2 ∧ w.cell? ⟨b, 3, none⟩ = some x3 ∧ w.cell? ⟨c, 0, none⟩ = some y0 ∧ w.cell? ⟨c, 1, none⟩ = some y1 ∧ w.cell? ⟨c, 2, none⟩ = some y2 ∧ w.cell? ⟨c, 3, none⟩ = some y3 := ⟨h.g.cell 0, h.g.cell 1, h.g.cell 2, h.g.cell 3, h.a.cell 0, h.a.cell 1, h.a.cell 2, h.a.cell 3⟩
theorem TwoV.new (h : TwoV w b c x0 x1 x2 x3 y0 y1 y2 y3) (k : Keeps (fun _ => False) w w') : TwoV w' b c x0 x1 x2 x3 y0 y1 y2 y3 := ⟨h.g.keeps k (fun h => h), h.a.keeps k (fun h => h)⟩
theorem TwoV.grown {K : Option Addr} (h : TwoV w b c x0 x1 x2 x3 y0 y1 y2 y3) (hg : w.grownBy w' (ob K)) (h1 : ob K ≠ some b) (h2 : ob K ≠ some c) : TwoV w' b c x0 x1 x2 x3 y0 y1 y2 y3 := by
  have Kp : Keeps (fun i => ob K = some i) w w' := (Keeps.refl _ w).grown hg (fun k hk => .inl hk)
  exact ⟨h.g.keeps Kp h1, h.a.keeps Kp h2⟩
end
/-- Values and answers while they are gathered. -/
structure PgAt (w0 W : World) (K : Option Addr) (nk ck : Nat) (V : Option Addr) (nv cv : Nat) (ks vs : List Value) : Prop where
  oK : W.ownsRow w0.heap.size 28 4 (.slice K nk ck) nk ks
  oV : W.ownsRow w0.heap.size 34 4 (.slice V nv cv) nv vs
  far : ∀ q, ob K = some q → ob V ≠ some q
  kp : Keeps (fun _ => False) w0 W
section
variable {w0 W W' : World} {K V : Option Addr} {nk ck nv cv : Nat} {ks vs : List Value}
theorem PgAt.start (w : World) : PgAt w w none 0 0 none 0 0 [] [] := ⟨World.ownsRow_nil _ _ _ _, World.ownsRow_nil _ _ _ _, fun q h => by simp [ob] at h, Keeps.refl _ _⟩
theorem PgAt.new (h : PgAt w0 W K nk ck V nv cv ks vs) (hk : Keeps (fun _ => False) W W') : PgAt w0 W' K nk ck V nv cv ks vs := ⟨own_keeps h.oK hk (fun _ _ h => h), own_keeps h.oV hk (fun _ _ h => h), h.far, h.kp.trans hk (fun _ _ h => h)⟩
theorem PgAt.stepK {K' : Option Addr} {ck' : Nat} {v : List Value} (h : PgAt w0 W K nk ck V nv cv ks vs) (hg : W.grownBy W' (ob K)) (ho : W'.ownsRow w0.heap.size 28 4 (.slice K' (nk + 1) ck') (nk + 1) (ks ++ v)) (hat : ob K' = ob K ∨ ob K' = some W.heap.size) : PgAt w0 W' K' (nk + 1) ck' V nv cv (ks ++ v) vs := by
  have Kp : Keeps (fun i => ob K = some i) W W' := (Keeps.refl _ W).grown hg (fun k hk => .inl hk)
  refine ⟨ho, own_keeps h.oV Kp (fun q hq e => ?_), fun q hq e => ?_, h.kp.grown hg (fun i hi => .inr (h.oK.lt i (by rw [ownBlock_slice]; exact hi)).1)⟩
  · rw [ownBlock_slice] at hq
    exact h.far q e hq
  · rcases hat with e2 | e2
    · exact h.far q (e2 ▸ hq) e
    · rw [e2] at hq
      injection hq with hq
      have := (h.oV.lt q (by rw [ownBlock_slice]; exact e)).2
      omega
theorem PgAt.stepV {V' : Option Addr} {cv' : Nat} {v : List Value} (h : PgAt w0 W K nk ck V nv cv ks vs) (hg : W.grownBy W' (ob V)) (ho : W'.ownsRow w0.heap.size 34 4 (.slice V' (nv + 1) cv') (nv + 1) (vs ++ v)) (hat : ob V' = ob V ∨ ob V' = some W.heap.size) : PgAt w0 W' K nk ck V' (nv + 1) cv' ks (vs ++ v) := by
  have Kp : Keeps (fun i => ob V = some i) W W' := (Keeps.refl _ W).grown hg (fun k hk => .inl hk)
  refine ⟨own_keeps h.oK Kp (fun q hq e => ?_), ho, fun q hq e => ?_, h.kp.grown hg (fun i hi => .inr (h.oV.lt i (by rw [ownBlock_slice]; exact hi)).1)⟩
  · rw [ownBlock_slice] at hq
    exact h.far q hq e
  · rcases hat with e2 | e2
    · exact h.far q hq (e2 ▸ e)
    · rw [e2] at e
      injection e with e
      have := (h.oK.lt q (by rw [ownBlock_slice]; exact hq)).2
      omega
end
def asksL (L : List PAsk) : List PAsk := L.map askOf
def wantL (L : List PAsk) : List PGot := L.map wantP
theorem asks_step {L : List PAsk} {k : Nat} {a : PAsk} (h : L[k]? = some a) : ((asksL (L.take k)).map askC).flatten ++ askC (askOf a) = ((asksL (L.take (k + 1))).map askC).flatten := by rw [List.take_add_one, h]; simp [asksL]
theorem want_step {L : List PAsk} {k : Nat} {a : PAsk} (h : L[k]? = some a) : ((wantL (L.take k)).map gotC).flatten ++ gotC (wantP a) = ((wantL (L.take (k + 1))).map gotC).flatten := by rw [List.take_add_one, h]; simp [wantL]
/-- Behind the switch. -/
def Mid (wr wc : World) (a : PAsk) : Prop := TwoV wc (wr.heap.size + 1) (wr.heap.size + 2) (.int .u64 ((wantP a).U : Int)) (.int .u64 ((wantP a).V : Int)) (.slice (wantP a).A (wantP a).S.length (wantP a).c) (.bool false) (.int .i64 (askOf a).op) (.int .u64 ((askOf a).u : Int)) (.int .u64 0) (.slice none 0 0) ∧ Keeps (fun _ => False) wr wc
theorem wd_cases (op : Int) (h1 : 1 ≤ op) (h19 : op ≤ 19) : op = 2 ∨ (op ≠ 2 ∧ ((wd op = 16 ∧ (op = 13 ∨ op = 14)) ∨ (wd op = 1 ∧ (op = 1 ∨ op = 3 ∨ op = 7)) ∨ (wd op = 2 ∧ (op = 4 ∨ op = 8)) ∨ (wd op = 4 ∧ (op = 5 ∨ op = 9 ∨ op = 11)) ∨ (wd op = 8 ∧ (op = 6 ∨ op = 10 ∨ op = 12)) ∨ (wd op = 0 ∧ (op = 18 ∨ op = 19 ∨ op = 17 ∨ op = 15 ∨ op = 16)))) := by
  have hop : op = 1 ∨ op = 2 ∨ op = 3 ∨ op = 4 ∨ op = 5 ∨ op = 6 ∨ op = 7 ∨ op = 8 ∨ op = 9 ∨ op = 10 ∨ op = 11 ∨ op = 12 ∨ op = 13 ∨ op = 14 ∨ op = 15 ∨ op = 16 ∨ op = 17 ∨ op = 18 ∨ op = 19 := by omega
  rcases hop with rfl | rfl | rfl | rfl | rfl | rfl | rfl | rfl | rfl | rfl | rfl | rfl | rfl | rfl | rfl | rfl | rfl | rfl | rfl <;> decide
theorem want_bytes {w : World} {a : PAsk} (h1 : 1 ≤ a.op) (h19 : a.op ≤ 19) (h : Rd w 1 a.A a.s.length (Lib.byteCells a.s)) : Rd w 1 (wantP a).A (wantP a).S.length (Lib.byteCells (wantP a).S) := by
  obtain ⟨op, u, v, s, A, c⟩ := a
  dsimp only at h h1 h19
  have hop : op = 1 ∨ op = 2 ∨ op = 3 ∨ op = 4 ∨ op = 5 ∨ op = 6 ∨ op = 7 ∨ op = 8 ∨ op = 9 ∨ op = 10 ∨ op = 11 ∨ op = 12 ∨ op = 13 ∨ op = 14 ∨ op = 15 ∨ op = 16 ∨ op = 17 ∨ op = 18 ∨ op = 19 := by omega
  rcases hop with rfl | rfl | rfl | rfl | rfl | rfl | rfl | rfl | rfl | rfl | rfl | rfl | rfl | rfl | rfl | rfl | rfl | rfl | rfl
  all_goals first | exact h | exact Rd.none'
set_option maxRecDepth 100000 in
set_option maxHeartbeats 8000000 in
theorem prAsksOk (w : World) (hW : WidthsV w) (E : Option Addr) (n ce : Nat) (l : List PAsk) (hE : AsksAt w E n l) (hn : n ≤ 1000) (hq : ∀ a ∈ l, PutsV a) :
    Calls Tryd.prog 16 #[.slice E n ce] w fun e w' => ∃ K ck V cv, e = .returned (.tuple #[.slice K n ck, .slice V n cv]) ∧ n ≤ cv ∧ AsksAt w' K n (asksL l) ∧ GotsAt w' V n (wantL l) ∧ Keeps (fun _ => False) w w' := by
  obtain ⟨i0, hi0, hi1, hi2, hi3⟩ := info_parts infoPrimE
  obtain ⟨j0, hj0, hj1, hj2, hj3⟩ := info_parts infoGotE
  have HE := Lib.hid hE
  have HW := Lib.hid hW
  have HQ := Lib.hid hq
  clear hE hW hq
  go_enter Tryd.func16, Tryd.ntmps16
  go_wp2_with fail
  go_loopg [4, 5, 13] n (fun gk a b i wr => ∃ (k : Nat) (K : Option Addr) (ck : Nat) (V : Option Addr) (cv : Nat), k ≤ n ∧ gk = n - k ∧ a = .slice K k ck ∧ b = .slice V k cv ∧ i = .int .i64 k ∧ PgAt w wr K k ck V k cv ((asksL (l.take k)).map askC).flatten ((wantL (l.take k)).map gotC).flatten)
  case atStart => exact ⟨0, none, 0, none, 0, Nat.zero_le _, rfl, rfl, rfl, rfl, PgAt.start w⟩
  case round =>
    obtain ⟨k, K, ck, V, cv, hk, hgk, rfl, rfl, rfl, hP⟩ := hrel
    by_cases hlt : k < n
    · obtain ⟨a, ha⟩ : ∃ a, l[k]? = some a := ⟨_, List.getElem?_eq_getElem (by rw [HE.out.len]; exact hlt)⟩
      have hE2 := HE.out.new hP.kp
      obtain ⟨ad, hEe, hb, hcell⟩ := rows4 askC askC_len hE2.len hE2.rows ha
      subst hEe
      have hqa := HQ.out a (List.mem_of_getElem? ha)
      obtain ⟨⟨g1, g2, g3, g4, g5, g6⟩, g7⟩ := hqa
      have HST := Lib.hid (And.intro (asks_step ha) (want_step ha))
      have HP := Lib.hid hP
      have hwc := wd_cases a.op g1 g2
      clear hE2 ha hP g6
      generalize hEA : askOf a = ea at *
      generalize hWA : wantP a = wa at *
      have HEA := Lib.hid hEA
      have HWA := Lib.hid hWA
      clear hEA hWA
      rcases a with ⟨op0, u0, v0, s0, A0, c0⟩
      have x0 : wr.cell? (ad.add (k * 4)) = some (.int .i64 op0) := hcell 0 _ rfl
      have x1 : wr.cell? ⟨(ad.add (k * 4)).block, (ad.add (k * 4)).off + 1, none⟩ = some (.int .u64 (u0 : Int)) := hcell 1 _ rfl
      have x2 : wr.cell? ⟨(ad.add (k * 4)).block, (ad.add (k * 4)).off + 2, none⟩ = some (.int .u64 v0) := hcell 2 _ rfl
      have x3 : wr.cell? ⟨(ad.add (k * 4)).block, (ad.add (k * 4)).off + 3, none⟩ = some (.slice A0 s0.length c0) := hcell 3 _ rfl
      dsimp only at g1 g2 g3 g4 g5 g7 hwc
      clear hcell
      obtain ⟨m0, hm0⟩ : ∃ m0, m0 = s0.length := ⟨_, rfl⟩
      rw [← hm0] at x3 g5
      have HM0 := Lib.hid hm0
      clear hm0
      have k_x := (Keeps.refl (fun _ => False) wr).alloc (.cells #[.int .i64 op0, .int .u64 (u0 : Int), .int .u64 v0, .slice A0 m0 c0] 28)
      have k_g := k_x.alloc (.cells #[.int .u64 0, .int .u64 0, .slice none 0 0, .bool false] 34)
      have k_a := k_g.alloc (.cells #[.int .i64 op0, .int .u64 0, .int .u64 0, .slice none 0 0] 28)
      have HWD := Lib.hid (prWidth _ (HW.out.new (HP.out.kp.trans k_g (fun _ _ h => h))) op0 g1 (by omega))
      have h_x := Whole.new wr 28 #[.int .i64 op0, .int .u64 (u0 : Int), .int .u64 v0, .slice A0 m0 c0]
      have h_g := Whole.new (wr.alloc (.cells #[.int .i64 op0, .int .u64 (u0 : Int), .int .u64 v0, .slice A0 m0 c0] 28)) 34 #[.int .u64 0, .int .u64 0, .slice none 0 0, .bool false]
      rw [World.size_alloc] at h_g
      have h_a := Whole.new ((wr.alloc (.cells #[.int .i64 op0, .int .u64 (u0 : Int), .int .u64 v0, .slice A0 m0 c0] 28)).alloc (.cells #[.int .u64 0, .int .u64 0, .slice none 0 0, .bool false] 34)) 28 #[.int .i64 op0, .int .u64 0, .int .u64 0, .slice none 0 0]
      rw [World.size_alloc, World.size_alloc] at h_a
      have h_g2 := h_g.alloc (.cells #[.int .i64 op0, .int .u64 0, .int .u64 0, .slice none 0 0] 28)
      have h_x2 := (h_x.alloc (.cells #[.int .u64 0, .int .u64 0, .slice none 0 0, .bool false] 34)).alloc (.cells #[.int .i64 op0, .int .u64 0, .int .u64 0, .slice none 0 0] 28)
      have HX := Lib.hid (And.intro h_x2 (And.intro h_g2 (And.intro h_a k_a)))
      clear k_x k_g k_a h_x h_g h_a h_g2 h_x2
      go_wp2_with fail
      refine HWD.out.mono ?_
      rintro e w2 ⟨rfl, rfl⟩
      go_upto_block 2 with fail
      generalize ((wr.alloc (.cells #[.int .i64 op0, .int .u64 (u0 : Int), .int .u64 v0, .slice A0 m0 c0] 28)).alloc (.cells #[.int .u64 0, .int .u64 0, .slice none 0 0, .bool false] 34)).alloc (.cells #[.int .i64 op0, .int .u64 0, .int .u64 0, .slice none 0 0] 28) = W3 at *
      obtain ⟨q1, q2, q3, q4⟩ := HX.out
      have X0 : W3.cell? ⟨wr.heap.size, 0, none⟩ = some (.int .i64 op0) := q1.cell 0
      have X1 : W3.cell? ⟨wr.heap.size, 1, none⟩ = some (.int .u64 (u0 : Int)) := q1.cell 1
      have X2 : W3.cell? ⟨wr.heap.size, 2, none⟩ = some (.int .u64 v0) := q1.cell 2
      have X3 : W3.cell? ⟨wr.heap.size, 3, none⟩ = some (.slice A0 m0 c0) := q1.cell 3
      have XL := q1.lt
      have G0 : W3.cell? ⟨wr.heap.size + 1, 0, none⟩ = some (.int .u64 0) := q2.cell 0
      have G1 : W3.cell? ⟨wr.heap.size + 1, 1, none⟩ = some (.int .u64 0) := q2.cell 1
      have G2 : W3.cell? ⟨wr.heap.size + 1, 2, none⟩ = some (.slice none 0 0) := q2.cell 2
      have F0 : W3.frozen? ⟨wr.heap.size + 1, 0, none⟩ = false := q2.frozen 0
      have F1 : W3.frozen? ⟨wr.heap.size + 1, 1, none⟩ = false := q2.frozen 1
      have F2 : W3.frozen? ⟨wr.heap.size + 1, 2, none⟩ = false := q2.frozen 2
      have GL := q2.lt
      have A00 : W3.cell? ⟨wr.heap.size + 2, 0, none⟩ = some (.int .i64 op0) := q3.cell 0
      have A1 : W3.cell? ⟨wr.heap.size + 2, 1, none⟩ = some (.int .u64 0) := q3.cell 1
      have E0 : W3.frozen? ⟨wr.heap.size + 2, 0, none⟩ = false := q3.frozen 0
      have E1 : W3.frozen? ⟨wr.heap.size + 2, 1, none⟩ = false := q3.frozen 1
      have AL := q3.lt
      clear q1 q2 q3 q4
      obtain ⟨W, hW⟩ : ∃ W, wd op0 = W := ⟨_, rfl⟩
      rw [hW] at hwc ⊢
      clear hW
      go_cut [13] from 13 to 85 (fun s13 wc => s13 = .int .i64 (k : Int) ∧ TwoV wc (wr.heap.size + 1) (wr.heap.size + 2) (.int .u64 (wa.U : Int)) (.int .u64 (wa.V : Int)) (.slice wa.A wa.S.length wa.c) (.bool false) (.int .i64 ea.op) (.int .u64 (ea.u : Int)) (.int .u64 0) (.slice none 0 0) ∧ Keeps (fun _ => False) wr wc)
      case first =>
        rcases hwc with rfl | ⟨hn2, ⟨rfl, hop⟩ | ⟨rfl, hop⟩ | ⟨rfl, hop⟩ | ⟨rfl, hop⟩ | ⟨rfl, hop⟩ | ⟨rfl, hop⟩⟩
        · by_cases hu : u0 = 0
          · subst hu
            go_wp2_with fail
            go_meet
            case rel =>
              obtain ⟨_, q2, q3, q4⟩ := HX.out
              obtain rfl := HWA.out
              obtain rfl := HEA.out
              refine ⟨rfl, ⟨?_, ?_⟩, q4⟩
              · have e : (#[.int .u64 ((wantP ⟨2, 0, v0, s0, A0, c0⟩).U : Int), .int .u64 ((wantP ⟨2, 0, v0, s0, A0, c0⟩).V : Int), .slice (wantP ⟨2, 0, v0, s0, A0, c0⟩).A (wantP ⟨2, 0, v0, s0, A0, c0⟩).S.length (wantP ⟨2, 0, v0, s0, A0, c0⟩).c, .bool false] : Array Value) = #[.int .u64 (0), .int .u64 (0), .slice none 0 0, .bool false] := by simp [wantP, wantG, wantOf]
                rw [e]; exact q2
              · have e : (#[.int .i64 (askOf ⟨2, 0, v0, s0, A0, c0⟩).op, .int .u64 ((askOf ⟨2, 0, v0, s0, A0, c0⟩).u : Int), .int .u64 0, .slice none 0 0] : Array Value) = #[.int .i64 (2), .int .u64 (0), .int .u64 0, .slice none 0 0] := by simp [askOf, askOp]
                rw [e]; exact q3
          · have hu2 : ((u0 : Int) != 0) = true := by simpa using hu
            have HU := Lib.hid hu
            clear hu
            go_wp2_with fail
            go_meet
            case rel =>
              obtain ⟨_, q2, q3, q4⟩ := HX.out
              have r2_1 := q2.put 0 (.int .u64 1)
              have r3_1 := q3.far (p := ⟨wr.heap.size + 1, 0, none⟩) (by show wr.heap.size + 2 ≠ wr.heap.size + 1; omega) (.int .u64 1)
              have r4_1 := q4.setCell (p := ⟨wr.heap.size + 1, 0, none⟩) (.inr (by show wr.heap.size ≤ wr.heap.size + 1; omega)) (.int .u64 1)
              obtain rfl := HWA.out
              obtain rfl := HEA.out
              refine ⟨rfl, ⟨?_, ?_⟩, r4_1⟩
              · have e : (#[.int .u64 ((wantP ⟨2, u0, v0, s0, A0, c0⟩).U : Int), .int .u64 ((wantP ⟨2, u0, v0, s0, A0, c0⟩).V : Int), .slice (wantP ⟨2, u0, v0, s0, A0, c0⟩).A (wantP ⟨2, u0, v0, s0, A0, c0⟩).S.length (wantP ⟨2, u0, v0, s0, A0, c0⟩).c, .bool false] : Array Value) = #[.int .u64 (1), .int .u64 (0), .slice none 0 0, .bool false] := by simp [wantP, wantG, wantOf, HU.out]
                rw [e]; exact r2_1
              · have e : (#[.int .i64 (askOf ⟨2, u0, v0, s0, A0, c0⟩).op, .int .u64 ((askOf ⟨2, u0, v0, s0, A0, c0⟩).u : Int), .int .u64 0, .slice none 0 0] : Array Value) = #[.int .i64 (2), .int .u64 (0), .int .u64 0, .slice none 0 0] := by simp [askOf, askOp]
                rw [e]; exact r3_1
        · have e2 : (op0 == 2) = false := by simpa using hn2
          have HOP := Lib.hid (And.intro hn2 hop)
          clear hn2 hop
          go_wp2_with fail
          go_region
          all_goals
            go_wp2_with fail
            go_meet
            case rel =>
              obtain ⟨_, q2, q3, q4⟩ := HX.out
              have r2_1 := q2.put 0 (.int .u64 (u0 : Int))
              have r3_1 := q3.far (p := ⟨wr.heap.size + 1, 0, none⟩) (by show wr.heap.size + 2 ≠ wr.heap.size + 1; omega) (.int .u64 (u0 : Int))
              have r4_1 := q4.setCell (p := ⟨wr.heap.size + 1, 0, none⟩) (.inr (by show wr.heap.size ≤ wr.heap.size + 1; omega)) (.int .u64 (u0 : Int))
              have r2_2 := r2_1.put 1 (.int .u64 v0)
              have r3_2 := r3_1.far (p := ⟨wr.heap.size + 1, 1, none⟩) (by show wr.heap.size + 2 ≠ wr.heap.size + 1; omega) (.int .u64 v0)
              have r4_2 := r4_1.setCell (p := ⟨wr.heap.size + 1, 1, none⟩) (.inr (by show wr.heap.size ≤ wr.heap.size + 1; omega)) (.int .u64 v0)
              obtain rfl := HWA.out
              obtain rfl := HEA.out
              have hm := HM0.out
              subst hm
              refine ⟨rfl, ⟨?_, ?_⟩, r4_2.drew⟩
              · have e : (#[.int .u64 ((wantP ⟨op0, u0, v0, s0, A0, c0⟩).U : Int), .int .u64 ((wantP ⟨op0, u0, v0, s0, A0, c0⟩).V : Int), .slice (wantP ⟨op0, u0, v0, s0, A0, c0⟩).A (wantP ⟨op0, u0, v0, s0, A0, c0⟩).S.length (wantP ⟨op0, u0, v0, s0, A0, c0⟩).c, .bool false] : Array Value) = #[.int .u64 ((u0 : Int)), .int .u64 (v0), .slice none 0 0, .bool false] := (by obtain ⟨hn, hop⟩ := HOP.out; rcases hop with rfl | rfl <;> simp [wantP, wantG, wantOf, Int.toNat_of_nonneg g4])
                rw [e]; exact r2_2.drew
              · have e : (#[.int .i64 (askOf ⟨op0, u0, v0, s0, A0, c0⟩).op, .int .u64 ((askOf ⟨op0, u0, v0, s0, A0, c0⟩).u : Int), .int .u64 0, .slice none 0 0] : Array Value) = #[.int .i64 (op0), .int .u64 (0), .int .u64 0, .slice none 0 0] := (by obtain ⟨hn, hop⟩ := HOP.out; rcases hop with rfl | rfl <;> simp [askOf, askOp])
                rw [e]; exact r3_2.drew
        · have e2 : (op0 == 2) = false := by simpa using hn2
          have HOP := Lib.hid (And.intro hn2 hop)
          clear hn2 hop
          have hv : IntKind.u64.wrap ((u0 : Int) * 72057594037927936) / 72057594037927936 = ((u0 % 256 : Nat) : Int) := by rw [IntKind.wrap_u64]; omega
          have HV := Lib.hid hv
          clear hv
          go_wp2_with fail
          rw [HV.out]
          go_meet
          case rel =>
            obtain ⟨_, q2, q3, q4⟩ := HX.out
            have r2_1 := q2.put 0 (.int .u64 ((u0 % 256 : Nat) : Int))
            have r3_1 := q3.far (p := ⟨wr.heap.size + 1, 0, none⟩) (by show wr.heap.size + 2 ≠ wr.heap.size + 1; omega) (.int .u64 ((u0 % 256 : Nat) : Int))
            have r4_1 := q4.setCell (p := ⟨wr.heap.size + 1, 0, none⟩) (.inr (by show wr.heap.size ≤ wr.heap.size + 1; omega)) (.int .u64 ((u0 % 256 : Nat) : Int))
            obtain rfl := HWA.out
            obtain rfl := HEA.out
            have hm := HM0.out
            subst hm
            refine ⟨rfl, ⟨?_, ?_⟩, r4_1⟩
            · have e : (#[.int .u64 ((wantP ⟨op0, u0, v0, s0, A0, c0⟩).U : Int), .int .u64 ((wantP ⟨op0, u0, v0, s0, A0, c0⟩).V : Int), .slice (wantP ⟨op0, u0, v0, s0, A0, c0⟩).A (wantP ⟨op0, u0, v0, s0, A0, c0⟩).S.length (wantP ⟨op0, u0, v0, s0, A0, c0⟩).c, .bool false] : Array Value) = #[.int .u64 (((u0 % 256 : Nat) : Int)), .int .u64 (0), .slice none 0 0, .bool false] := (by obtain ⟨hn, hop⟩ := HOP.out; rcases hop with rfl | rfl | rfl <;> simp [wantP, wantG, wantOf])
              rw [e]; exact r2_1
            · have e : (#[.int .i64 (askOf ⟨op0, u0, v0, s0, A0, c0⟩).op, .int .u64 ((askOf ⟨op0, u0, v0, s0, A0, c0⟩).u : Int), .int .u64 0, .slice none 0 0] : Array Value) = #[.int .i64 (op0), .int .u64 (0), .int .u64 0, .slice none 0 0] := (by obtain ⟨hn, hop⟩ := HOP.out; rcases hop with rfl | rfl | rfl <;> simp [askOf, askOp])
              rw [e]; exact r3_1
        · have e2 : (op0 == 2) = false := by simpa using hn2
          have HOP := Lib.hid (And.intro hn2 hop)
          clear hn2 hop
          have hv : IntKind.u64.wrap ((u0 : Int) * 281474976710656) / 281474976710656 = ((u0 % 65536 : Nat) : Int) := by rw [IntKind.wrap_u64]; omega
          have HV := Lib.hid hv
          clear hv
          go_wp2_with fail
          rw [HV.out]
          go_meet
          case rel =>
            obtain ⟨_, q2, q3, q4⟩ := HX.out
            have r2_1 := q2.put 0 (.int .u64 ((u0 % 65536 : Nat) : Int))
            have r3_1 := q3.far (p := ⟨wr.heap.size + 1, 0, none⟩) (by show wr.heap.size + 2 ≠ wr.heap.size + 1; omega) (.int .u64 ((u0 % 65536 : Nat) : Int))
            have r4_1 := q4.setCell (p := ⟨wr.heap.size + 1, 0, none⟩) (.inr (by show wr.heap.size ≤ wr.heap.size + 1; omega)) (.int .u64 ((u0 % 65536 : Nat) : Int))
            obtain rfl := HWA.out
            obtain rfl := HEA.out
            have hm := HM0.out
            subst hm
            refine ⟨rfl, ⟨?_, ?_⟩, r4_1⟩
            · have e : (#[.int .u64 ((wantP ⟨op0, u0, v0, s0, A0, c0⟩).U : Int), .int .u64 ((wantP ⟨op0, u0, v0, s0, A0, c0⟩).V : Int), .slice (wantP ⟨op0, u0, v0, s0, A0, c0⟩).A (wantP ⟨op0, u0, v0, s0, A0, c0⟩).S.length (wantP ⟨op0, u0, v0, s0, A0, c0⟩).c, .bool false] : Array Value) = #[.int .u64 (((u0 % 65536 : Nat) : Int)), .int .u64 (0), .slice none 0 0, .bool false] := (by obtain ⟨hn, hop⟩ := HOP.out; rcases hop with rfl | rfl <;> simp [wantP, wantG, wantOf])
              rw [e]; exact r2_1
            · have e : (#[.int .i64 (askOf ⟨op0, u0, v0, s0, A0, c0⟩).op, .int .u64 ((askOf ⟨op0, u0, v0, s0, A0, c0⟩).u : Int), .int .u64 0, .slice none 0 0] : Array Value) = #[.int .i64 (op0), .int .u64 (0), .int .u64 0, .slice none 0 0] := (by obtain ⟨hn, hop⟩ := HOP.out; rcases hop with rfl | rfl <;> simp [askOf, askOp])
              rw [e]; exact r3_1
        · have e2 : (op0 == 2) = false := by simpa using hn2
          have HOP := Lib.hid (And.intro hn2 hop)
          clear hn2 hop
          have hv : IntKind.u64.wrap ((u0 : Int) * 4294967296) / 4294967296 = ((u0 % 4294967296 : Nat) : Int) := by rw [IntKind.wrap_u64]; omega
          have HV := Lib.hid hv
          clear hv
          go_wp2_with fail
          rw [HV.out]
          go_meet
          case rel =>
            obtain ⟨_, q2, q3, q4⟩ := HX.out
            have r2_1 := q2.put 0 (.int .u64 ((u0 % 4294967296 : Nat) : Int))
            have r3_1 := q3.far (p := ⟨wr.heap.size + 1, 0, none⟩) (by show wr.heap.size + 2 ≠ wr.heap.size + 1; omega) (.int .u64 ((u0 % 4294967296 : Nat) : Int))
            have r4_1 := q4.setCell (p := ⟨wr.heap.size + 1, 0, none⟩) (.inr (by show wr.heap.size ≤ wr.heap.size + 1; omega)) (.int .u64 ((u0 % 4294967296 : Nat) : Int))
            obtain rfl := HWA.out
            obtain rfl := HEA.out
            have hm := HM0.out
            subst hm
            refine ⟨rfl, ⟨?_, ?_⟩, r4_1⟩
            · have e : (#[.int .u64 ((wantP ⟨op0, u0, v0, s0, A0, c0⟩).U : Int), .int .u64 ((wantP ⟨op0, u0, v0, s0, A0, c0⟩).V : Int), .slice (wantP ⟨op0, u0, v0, s0, A0, c0⟩).A (wantP ⟨op0, u0, v0, s0, A0, c0⟩).S.length (wantP ⟨op0, u0, v0, s0, A0, c0⟩).c, .bool false] : Array Value) = #[.int .u64 (((u0 % 4294967296 : Nat) : Int)), .int .u64 (0), .slice none 0 0, .bool false] := (by obtain ⟨hn, hop⟩ := HOP.out; rcases hop with rfl | rfl | rfl <;> simp [wantP, wantG, wantOf])
              rw [e]; exact r2_1
            · have e : (#[.int .i64 (askOf ⟨op0, u0, v0, s0, A0, c0⟩).op, .int .u64 ((askOf ⟨op0, u0, v0, s0, A0, c0⟩).u : Int), .int .u64 0, .slice none 0 0] : Array Value) = #[.int .i64 (op0), .int .u64 (0), .int .u64 0, .slice none 0 0] := (by obtain ⟨hn, hop⟩ := HOP.out; rcases hop with rfl | rfl | rfl <;> simp [askOf, askOp])
              rw [e]; exact r3_1
        · have e2 : (op0 == 2) = false := by simpa using hn2
          have HOP := Lib.hid (And.intro hn2 hop)
          clear hn2 hop
          have hv : IntKind.u64.wrap (u0 : Int) = (u0 : Int) := by rw [IntKind.wrap_u64]; omega
          go_wp2_with fail
          go_meet
          case rel =>
            obtain ⟨_, q2, q3, q4⟩ := HX.out
            have r2_1 := q2.put 0 (.int .u64 (u0 : Int))
            have r3_1 := q3.far (p := ⟨wr.heap.size + 1, 0, none⟩) (by show wr.heap.size + 2 ≠ wr.heap.size + 1; omega) (.int .u64 (u0 : Int))
            have r4_1 := q4.setCell (p := ⟨wr.heap.size + 1, 0, none⟩) (.inr (by show wr.heap.size ≤ wr.heap.size + 1; omega)) (.int .u64 (u0 : Int))
            obtain rfl := HWA.out
            obtain rfl := HEA.out
            have hm := HM0.out
            subst hm
            refine ⟨rfl, ⟨?_, ?_⟩, r4_1⟩
            · have e : (#[.int .u64 ((wantP ⟨op0, u0, v0, s0, A0, c0⟩).U : Int), .int .u64 ((wantP ⟨op0, u0, v0, s0, A0, c0⟩).V : Int), .slice (wantP ⟨op0, u0, v0, s0, A0, c0⟩).A (wantP ⟨op0, u0, v0, s0, A0, c0⟩).S.length (wantP ⟨op0, u0, v0, s0, A0, c0⟩).c, .bool false] : Array Value) = #[.int .u64 ((u0 : Int)), .int .u64 (0), .slice none 0 0, .bool false] := (by obtain ⟨hn, hop⟩ := HOP.out; rcases hop with rfl | rfl | rfl <;> simp [wantP, wantG, wantOf])
              rw [e]; exact r2_1
            · have e : (#[.int .i64 (askOf ⟨op0, u0, v0, s0, A0, c0⟩).op, .int .u64 ((askOf ⟨op0, u0, v0, s0, A0, c0⟩).u : Int), .int .u64 0, .slice none 0 0] : Array Value) = #[.int .i64 (op0), .int .u64 (0), .int .u64 0, .slice none 0 0] := (by obtain ⟨hn, hop⟩ := HOP.out; rcases hop with rfl | rfl | rfl <;> simp [askOf, askOp])
              rw [e]; exact r3_1
        · rcases hop with hop | hop | hop | hop | hop
          · subst hop
            clear hn2
            go_wp2_with fail
            go_meet
            case rel =>
              obtain ⟨_, q2, q3, q4⟩ := HX.out
              have r2_1 := q2.put 2 (.slice A0 m0 c0)
              have r3_1 := q3.far (p := ⟨wr.heap.size + 1, 2, none⟩) (by show wr.heap.size + 2 ≠ wr.heap.size + 1; omega) (.slice A0 m0 c0)
              have r4_1 := q4.setCell (p := ⟨wr.heap.size + 1, 2, none⟩) (.inr (by show wr.heap.size ≤ wr.heap.size + 1; omega)) (.slice A0 m0 c0)
              obtain rfl := HWA.out
              obtain rfl := HEA.out
              have hm := HM0.out
              subst hm
              refine ⟨rfl, ⟨?_, ?_⟩, r4_1⟩
              · have e : (#[.int .u64 ((wantP ⟨18, u0, v0, s0, A0, c0⟩).U : Int), .int .u64 ((wantP ⟨18, u0, v0, s0, A0, c0⟩).V : Int), .slice (wantP ⟨18, u0, v0, s0, A0, c0⟩).A (wantP ⟨18, u0, v0, s0, A0, c0⟩).S.length (wantP ⟨18, u0, v0, s0, A0, c0⟩).c, .bool false] : Array Value) = #[.int .u64 (0), .int .u64 (0), .slice A0 s0.length c0, .bool false] := (by simp [wantP, wantG, wantOf])
                rw [e]; exact r2_1
              · have e : (#[.int .i64 (askOf ⟨18, u0, v0, s0, A0, c0⟩).op, .int .u64 ((askOf ⟨18, u0, v0, s0, A0, c0⟩).u : Int), .int .u64 0, .slice none 0 0] : Array Value) = #[.int .i64 (18), .int .u64 (0), .int .u64 0, .slice none 0 0] := (by simp [askOf, askOp])
                rw [e]; exact r3_1
          · subst hop
            clear hn2
            have hv : IntKind.u64.wrap (m0 : Int) = (m0 : Int) := by rw [IntKind.wrap_u64]; omega
            go_wp2_with fail
            go_meet
            case rel =>
              obtain ⟨_, q2, q3, q4⟩ := HX.out
              have r2_1 := q2.put 2 (.slice A0 m0 c0)
              have r3_1 := q3.far (p := ⟨wr.heap.size + 1, 2, none⟩) (by show wr.heap.size + 2 ≠ wr.heap.size + 1; omega) (.slice A0 m0 c0)
              have r4_1 := q4.setCell (p := ⟨wr.heap.size + 1, 2, none⟩) (.inr (by show wr.heap.size ≤ wr.heap.size + 1; omega)) (.slice A0 m0 c0)
              have r3_2 := r3_1.put 1 (.int .u64 (m0 : Int))
              have r2_2 := r2_1.far (p := ⟨wr.heap.size + 2, 1, none⟩) (by show wr.heap.size + 1 ≠ wr.heap.size + 2; omega) (.int .u64 (m0 : Int))
              have r4_2 := r4_1.setCell (p := ⟨wr.heap.size + 2, 1, none⟩) (.inr (by show wr.heap.size ≤ wr.heap.size + 2; omega)) (.int .u64 (m0 : Int))
              obtain rfl := HWA.out
              obtain rfl := HEA.out
              have hm := HM0.out
              subst hm
              refine ⟨rfl, ⟨?_, ?_⟩, r4_2⟩
              · have e : (#[.int .u64 ((wantP ⟨19, u0, v0, s0, A0, c0⟩).U : Int), .int .u64 ((wantP ⟨19, u0, v0, s0, A0, c0⟩).V : Int), .slice (wantP ⟨19, u0, v0, s0, A0, c0⟩).A (wantP ⟨19, u0, v0, s0, A0, c0⟩).S.length (wantP ⟨19, u0, v0, s0, A0, c0⟩).c, .bool false] : Array Value) = #[.int .u64 (0), .int .u64 (0), .slice A0 s0.length c0, .bool false] := (by simp [wantP, wantG, wantOf])
                rw [e]; exact r2_2
              · have e : (#[.int .i64 (askOf ⟨19, u0, v0, s0, A0, c0⟩).op, .int .u64 ((askOf ⟨19, u0, v0, s0, A0, c0⟩).u : Int), .int .u64 0, .slice none 0 0] : Array Value) = #[.int .i64 (19), .int .u64 ((s0.length : Int)), .int .u64 0, .slice none 0 0] := (by simp [askOf, askOp])
                rw [e]; exact r3_2
          · subst hop
            clear hn2
            go_wp2_with fail
            go_meet
            case rel =>
              obtain ⟨_, q2, q3, q4⟩ := HX.out
              have r2_1 := q2.put 0 (.int .u64 (u0 : Int))
              have r3_1 := q3.far (p := ⟨wr.heap.size + 1, 0, none⟩) (by show wr.heap.size + 2 ≠ wr.heap.size + 1; omega) (.int .u64 (u0 : Int))
              have r4_1 := q4.setCell (p := ⟨wr.heap.size + 1, 0, none⟩) (.inr (by show wr.heap.size ≤ wr.heap.size + 1; omega)) (.int .u64 (u0 : Int))
              have r3_2 := r3_1.put 0 (.int .i64 16)
              have r2_2 := r2_1.far (p := ⟨wr.heap.size + 2, 0, none⟩) (by show wr.heap.size + 1 ≠ wr.heap.size + 2; omega) (.int .i64 16)
              have r4_2 := r4_1.setCell (p := ⟨wr.heap.size + 2, 0, none⟩) (.inr (by show wr.heap.size ≤ wr.heap.size + 2; omega)) (.int .i64 16)
              obtain rfl := HWA.out
              obtain rfl := HEA.out
              have hm := HM0.out
              subst hm
              refine ⟨rfl, ⟨?_, ?_⟩, r4_2⟩
              · have e : (#[.int .u64 ((wantP ⟨17, u0, v0, s0, A0, c0⟩).U : Int), .int .u64 ((wantP ⟨17, u0, v0, s0, A0, c0⟩).V : Int), .slice (wantP ⟨17, u0, v0, s0, A0, c0⟩).A (wantP ⟨17, u0, v0, s0, A0, c0⟩).S.length (wantP ⟨17, u0, v0, s0, A0, c0⟩).c, .bool false] : Array Value) = #[.int .u64 ((u0 : Int)), .int .u64 (0), .slice none 0 0, .bool false] := (by simp [wantP, wantG, wantOf])
                rw [e]; exact r2_2
              · have e : (#[.int .i64 (askOf ⟨17, u0, v0, s0, A0, c0⟩).op, .int .u64 ((askOf ⟨17, u0, v0, s0, A0, c0⟩).u : Int), .int .u64 0, .slice none 0 0] : Array Value) = #[.int .i64 (16), .int .u64 (0), .int .u64 0, .slice none 0 0] := (by simp [askOf, askOp])
                rw [e]; exact r3_2
          · subst hop
            clear hn2
            go_wp2_with fail
            go_meet
            case rel =>
              obtain ⟨_, q2, q3, q4⟩ := HX.out
              have r2_1 := q2.put 0 (.int .u64 (u0 : Int))
              have r3_1 := q3.far (p := ⟨wr.heap.size + 1, 0, none⟩) (by show wr.heap.size + 2 ≠ wr.heap.size + 1; omega) (.int .u64 (u0 : Int))
              have r4_1 := q4.setCell (p := ⟨wr.heap.size + 1, 0, none⟩) (.inr (by show wr.heap.size ≤ wr.heap.size + 1; omega)) (.int .u64 (u0 : Int))
              obtain rfl := HWA.out
              obtain rfl := HEA.out
              have hm := HM0.out
              subst hm
              refine ⟨rfl, ⟨?_, ?_⟩, r4_1⟩
              · have e : (#[.int .u64 ((wantP ⟨15, u0, v0, s0, A0, c0⟩).U : Int), .int .u64 ((wantP ⟨15, u0, v0, s0, A0, c0⟩).V : Int), .slice (wantP ⟨15, u0, v0, s0, A0, c0⟩).A (wantP ⟨15, u0, v0, s0, A0, c0⟩).S.length (wantP ⟨15, u0, v0, s0, A0, c0⟩).c, .bool false] : Array Value) = #[.int .u64 ((u0 : Int)), .int .u64 (0), .slice none 0 0, .bool false] := (by simp [wantP, wantG, wantOf])
                rw [e]; exact r2_1
              · have e : (#[.int .i64 (askOf ⟨15, u0, v0, s0, A0, c0⟩).op, .int .u64 ((askOf ⟨15, u0, v0, s0, A0, c0⟩).u : Int), .int .u64 0, .slice none 0 0] : Array Value) = #[.int .i64 (15), .int .u64 (0), .int .u64 0, .slice none 0 0] := (by simp [askOf, askOp])
                rw [e]; exact r3_1
          · subst hop
            clear hn2
            go_wp2_with fail
            go_meet
            case rel =>
              obtain ⟨_, q2, q3, q4⟩ := HX.out
              have r2_1 := q2.put 0 (.int .u64 (u0 : Int))
              have r3_1 := q3.far (p := ⟨wr.heap.size + 1, 0, none⟩) (by show wr.heap.size + 2 ≠ wr.heap.size + 1; omega) (.int .u64 (u0 : Int))
              have r4_1 := q4.setCell (p := ⟨wr.heap.size + 1, 0, none⟩) (.inr (by show wr.heap.size ≤ wr.heap.size + 1; omega)) (.int .u64 (u0 : Int))
              obtain rfl := HWA.out
              obtain rfl := HEA.out
              have hm := HM0.out
              subst hm
              refine ⟨rfl, ⟨?_, ?_⟩, r4_1⟩
              · have e : (#[.int .u64 ((wantP ⟨16, u0, v0, s0, A0, c0⟩).U : Int), .int .u64 ((wantP ⟨16, u0, v0, s0, A0, c0⟩).V : Int), .slice (wantP ⟨16, u0, v0, s0, A0, c0⟩).A (wantP ⟨16, u0, v0, s0, A0, c0⟩).S.length (wantP ⟨16, u0, v0, s0, A0, c0⟩).c, .bool false] : Array Value) = #[.int .u64 ((u0 : Int)), .int .u64 (0), .slice none 0 0, .bool false] := (by simp [wantP, wantG, wantOf])
                rw [e]; exact r2_1
              · have e : (#[.int .i64 (askOf ⟨16, u0, v0, s0, A0, c0⟩).op, .int .u64 ((askOf ⟨16, u0, v0, s0, A0, c0⟩).u : Int), .int .u64 0, .slice none 0 0] : Array Value) = #[.int .i64 (16), .int .u64 (0), .int .u64 0, .slice none 0 0] := (by simp [askOf, askOp])
                rw [e]; exact r3_1
      case rest =>
        obtain ⟨rfl, T0, kc⟩ := hcut
        have hac : askC ea = [.int .i64 ea.op, .int .u64 (ea.u : Int), .int .u64 0, .slice none 0 0] := by rw [← HEA.out]; rfl
        have hgc : gotC wa = [.int .u64 (wa.U : Int), .int .u64 (wa.V : Int), .slice wa.A wa.S.length wa.c, .bool false] := by rw [← HWA.out]; rfl
        have hst := HST.out
        rw [hac, hgc] at hst
        have h0 := HP.out.new kc
        have lK0 : ∀ z, ob K = some z → z < wr.heap.size := fun z hz => (HP.out.oK.lt z (by rw [ownBlock_slice]; exact hz)).2
        have lV0 : ∀ z, ob V = some z → z < wr.heap.size := fun z hz => (HP.out.oV.lt z (by rw [ownBlock_slice]; exact hz)).2
        have lK : ∀ z, ob K = some z → z < wc.heap.size := fun z hz => Nat.lt_of_lt_of_le (lK0 z hz) kc.size
        have lV : ∀ z, ob V = some z → z < wc.heap.size := fun z hz => Nat.lt_of_lt_of_le (lV0 z hz) kc.size
        have nK1 : ob K ≠ some (wr.heap.size + 1) := fun h => by have := lK0 _ h; omega
        have nK2 : ob K ≠ some (wr.heap.size + 2) := fun h => by have := lK0 _ h; omega
        have nV1 : ob V ≠ some (wr.heap.size + 1) := fun h => by have := lV0 _ h; omega
        have nV2 : ob V ≠ some (wr.heap.size + 2) := fun h => by have := lV0 _ h; omega
        generalize ((asksL (l.take k)).map askC).flatten = ks0 at *
        generalize ((wantL (l.take k)).map gotC).flatten = vs0 at *
        generalize hks1 : ((asksL (l.take (k + 1))).map askC).flatten = ks1 at *
        generalize hvs1 : ((wantL (l.take (k + 1))).map gotC).flatten = vs1 at *
        have HKV := Lib.hid (And.intro hks1 hvs1)
        clear hks1 hvs1
        generalize ea.op = op at *
        generalize ea.u = u at *
        generalize wa.U = U at *
        generalize wa.V = V1 at *
        generalize wa.A = A at *
        generalize wa.S.length = n2 at *
        generalize wa.c = c2 at *
        have HST2 := Lib.hid hst
        clear hac hgc hst HST HEA HWA X0 X1 X2 X3 XL G0 G1 G2 F0 F1 F2 GL A00 A1 E0 E1 AL x0 x1 x2 x3 HWD HX lK0 lV0 HM0 HP hwc g1 g2 g3 g4 g5 g7 hb
        have k_a := (Keeps.refl (fun _ => False) wc).drew
        have k_ak := k_a.alloc (.cells #[.int .i64 op, .int .u64 (u : Int), .int .u64 0, .slice none 0 0] 28)
        have k_av := k_a.alloc (.cells #[.int .u64 (U : Int), .int .u64 (V1 : Int), .slice A n2 c2, .bool false] 34)
        have k_akv := k_ak.alloc (.cells #[.int .u64 (U : Int), .int .u64 (V1 : Int), .slice A n2 c2, .bool false] 34)
        have k_avk := k_av.alloc (.cells #[.int .i64 op, .int .u64 (u : Int), .int .u64 0, .slice none 0 0] 28)
        have t_a := T0.new k_a
        have t_ak := T0.new k_ak
        have t_av := T0.new k_av
        have t_akv := T0.new k_akv
        have t_avk := T0.new k_avk
        have s_a : (fun w' => w'.cell? ⟨wr.heap.size + 1, 0, none⟩ = some (.int .u64 (U : Int)) ∧ w'.cell? ⟨wr.heap.size + 1, 1, none⟩ = some (.int .u64 (V1 : Int)) ∧ w'.cell? ⟨wr.heap.size + 1, 2, none⟩ = some (.slice A n2 c2) ∧ w'.cell? ⟨wr.heap.size + 1, 3, none⟩ = some (.bool false) ∧ w'.cell? ⟨wr.heap.size + 2, 0, none⟩ = some (.int .i64 op) ∧ w'.cell? ⟨wr.heap.size + 2, 1, none⟩ = some (.int .u64 (u : Int)) ∧ w'.cell? ⟨wr.heap.size + 2, 2, none⟩ = some (.int .u64 0) ∧ w'.cell? ⟨wr.heap.size + 2, 3, none⟩ = some (.slice none 0 0)) wc.drew := t_a.cells
        have s_ak : (fun w' => w'.cell? ⟨wr.heap.size + 1, 0, none⟩ = some (.int .u64 (U : Int)) ∧ w'.cell? ⟨wr.heap.size + 1, 1, none⟩ = some (.int .u64 (V1 : Int)) ∧ w'.cell? ⟨wr.heap.size + 1, 2, none⟩ = some (.slice A n2 c2) ∧ w'.cell? ⟨wr.heap.size + 1, 3, none⟩ = some (.bool false) ∧ w'.cell? ⟨wr.heap.size + 2, 0, none⟩ = some (.int .i64 op) ∧ w'.cell? ⟨wr.heap.size + 2, 1, none⟩ = some (.int .u64 (u : Int)) ∧ w'.cell? ⟨wr.heap.size + 2, 2, none⟩ = some (.int .u64 0) ∧ w'.cell? ⟨wr.heap.size + 2, 3, none⟩ = some (.slice none 0 0)) (wc.drew.alloc (.cells #[.int .i64 op, .int .u64 (u : Int), .int .u64 0, .slice none 0 0] 28)) := t_ak.cells
        have s_av : (fun w' => w'.cell? ⟨wr.heap.size + 1, 0, none⟩ = some (.int .u64 (U : Int)) ∧ w'.cell? ⟨wr.heap.size + 1, 1, none⟩ = some (.int .u64 (V1 : Int)) ∧ w'.cell? ⟨wr.heap.size + 1, 2, none⟩ = some (.slice A n2 c2) ∧ w'.cell? ⟨wr.heap.size + 1, 3, none⟩ = some (.bool false) ∧ w'.cell? ⟨wr.heap.size + 2, 0, none⟩ = some (.int .i64 op) ∧ w'.cell? ⟨wr.heap.size + 2, 1, none⟩ = some (.int .u64 (u : Int)) ∧ w'.cell? ⟨wr.heap.size + 2, 2, none⟩ = some (.int .u64 0) ∧ w'.cell? ⟨wr.heap.size + 2, 3, none⟩ = some (.slice none 0 0)) (wc.drew.alloc (.cells #[.int .u64 (U : Int), .int .u64 (V1 : Int), .slice A n2 c2, .bool false] 34)) := t_av.cells
        have s_akv : (fun w' => w'.cell? ⟨wr.heap.size + 1, 0, none⟩ = some (.int .u64 (U : Int)) ∧ w'.cell? ⟨wr.heap.size + 1, 1, none⟩ = some (.int .u64 (V1 : Int)) ∧ w'.cell? ⟨wr.heap.size + 1, 2, none⟩ = some (.slice A n2 c2) ∧ w'.cell? ⟨wr.heap.size + 1, 3, none⟩ = some (.bool false) ∧ w'.cell? ⟨wr.heap.size + 2, 0, none⟩ = some (.int .i64 op) ∧ w'.cell? ⟨wr.heap.size + 2, 1, none⟩ = some (.int .u64 (u : Int)) ∧ w'.cell? ⟨wr.heap.size + 2, 2, none⟩ = some (.int .u64 0) ∧ w'.cell? ⟨wr.heap.size + 2, 3, none⟩ = some (.slice none 0 0)) ((wc.drew.alloc (.cells #[.int .i64 op, .int .u64 (u : Int), .int .u64 0, .slice none 0 0] 28)).alloc (.cells #[.int .u64 (U : Int), .int .u64 (V1 : Int), .slice A n2 c2, .bool false] 34)) := t_akv.cells
        have s_avk : (fun w' => w'.cell? ⟨wr.heap.size + 1, 0, none⟩ = some (.int .u64 (U : Int)) ∧ w'.cell? ⟨wr.heap.size + 1, 1, none⟩ = some (.int .u64 (V1 : Int)) ∧ w'.cell? ⟨wr.heap.size + 1, 2, none⟩ = some (.slice A n2 c2) ∧ w'.cell? ⟨wr.heap.size + 1, 3, none⟩ = some (.bool false) ∧ w'.cell? ⟨wr.heap.size + 2, 0, none⟩ = some (.int .i64 op) ∧ w'.cell? ⟨wr.heap.size + 2, 1, none⟩ = some (.int .u64 (u : Int)) ∧ w'.cell? ⟨wr.heap.size + 2, 2, none⟩ = some (.int .u64 0) ∧ w'.cell? ⟨wr.heap.size + 2, 3, none⟩ = some (.slice none 0 0)) ((wc.drew.alloc (.cells #[.int .u64 (U : Int), .int .u64 (V1 : Int), .slice A n2 c2, .bool false] 34)).alloc (.cells #[.int .i64 op, .int .u64 (u : Int), .int .u64 0, .slice none 0 0] 28)) := t_avk.cells
        have zk : (World.heap (wc.drew.alloc (.cells #[.int .i64 op, .int .u64 (u : Int), .int .u64 0, .slice none 0 0] 28))).size = wc.heap.size + 1 := by simp
        have zv : (World.heap (wc.drew.alloc (.cells #[.int .u64 (U : Int), .int .u64 (V1 : Int), .slice A n2 c2, .bool false] 34))).size = wc.heap.size + 1 := by simp
        have ek1 : Rd (wc.drew.alloc (.cells #[.int .i64 op, .int .u64 (u : Int), .int .u64 0, .slice none 0 0] 28)) 4 (some ⟨wc.heap.size, 0, none⟩) 1 [.int .i64 op, .int .u64 (u : Int), .int .u64 0, .slice none 0 0] := rd4new wc.drew 28 _ _ _ _
        have ev2 : Rd (wc.drew.alloc (.cells #[.int .u64 (U : Int), .int .u64 (V1 : Int), .slice A n2 c2, .bool false] 34)) 4 (some ⟨wc.heap.size, 0, none⟩) 1 [.int .u64 (U : Int), .int .u64 (V1 : Int), .slice A n2 c2, .bool false] := rd4new wc.drew 34 _ _ _ _
        have ek3 : Rd ((wc.drew.alloc (.cells #[.int .i64 op, .int .u64 (u : Int), .int .u64 0, .slice none 0 0] 28)).alloc (.cells #[.int .u64 (U : Int), .int .u64 (V1 : Int), .slice A n2 c2, .bool false] 34)) 4 (some ⟨wc.heap.size, 0, none⟩) 1 [.int .i64 op, .int .u64 (u : Int), .int .u64 0, .slice none 0 0] := ek1.keeps ((Keeps.refl (fun _ => False) _).alloc _) (fun _ _ h => h)
        have ev3 : Rd ((wc.drew.alloc (.cells #[.int .i64 op, .int .u64 (u : Int), .int .u64 0, .slice none 0 0] 28)).alloc (.cells #[.int .u64 (U : Int), .int .u64 (V1 : Int), .slice A n2 c2, .bool false] 34)) 4 (some ⟨wc.heap.size + 1, 0, none⟩) 1 [.int .u64 (U : Int), .int .u64 (V1 : Int), .slice A n2 c2, .bool false] := by have h := rd4new (wc.drew.alloc (.cells #[.int .i64 op, .int .u64 (u : Int), .int .u64 0, .slice none 0 0] 28)) 34 (.int .u64 (U : Int)) (.int .u64 (V1 : Int)) (.slice A n2 c2) (.bool false); rw [zk] at h; exact h
        have ek4 : Rd ((wc.drew.alloc (.cells #[.int .u64 (U : Int), .int .u64 (V1 : Int), .slice A n2 c2, .bool false] 34)).alloc (.cells #[.int .i64 op, .int .u64 (u : Int), .int .u64 0, .slice none 0 0] 28)) 4 (some ⟨wc.heap.size + 1, 0, none⟩) 1 [.int .i64 op, .int .u64 (u : Int), .int .u64 0, .slice none 0 0] := by have h := rd4new (wc.drew.alloc (.cells #[.int .u64 (U : Int), .int .u64 (V1 : Int), .slice A n2 c2, .bool false] 34)) 28 (.int .i64 op) (.int .u64 (u : Int)) (.int .u64 0) (.slice none 0 0); rw [zv] at h; exact h
        have ev4 : Rd ((wc.drew.alloc (.cells #[.int .u64 (U : Int), .int .u64 (V1 : Int), .slice A n2 c2, .bool false] 34)).alloc (.cells #[.int .i64 op, .int .u64 (u : Int), .int .u64 0, .slice none 0 0] 28)) 4 (some ⟨wc.heap.size, 0, none⟩) 1 [.int .u64 (U : Int), .int .u64 (V1 : Int), .slice A n2 c2, .bool false] := ev2.keeps ((Keeps.refl (fun _ => False) _).alloc _) (fun _ _ h => h)
        go_wp2_with fail
        go_region_held3 (fun w' => w'.cell? ⟨wr.heap.size + 1, 0, none⟩ = some (.int .u64 (U : Int)) ∧ w'.cell? ⟨wr.heap.size + 1, 1, none⟩ = some (.int .u64 (V1 : Int)) ∧ w'.cell? ⟨wr.heap.size + 1, 2, none⟩ = some (.slice A n2 c2) ∧ w'.cell? ⟨wr.heap.size + 1, 3, none⟩ = some (.bool false) ∧ w'.cell? ⟨wr.heap.size + 2, 0, none⟩ = some (.int .i64 op) ∧ w'.cell? ⟨wr.heap.size + 2, 1, none⟩ = some (.int .u64 (u : Int)) ∧ w'.cell? ⟨wr.heap.size + 2, 2, none⟩ = some (.int .u64 0) ∧ w'.cell? ⟨wr.heap.size + 2, 3, none⟩ = some (.slice none 0 0)) (first | exact s_a | exact s_ak | exact s_av | exact s_akv | exact s_avk | exact s22 | exact s22a | exact s5) (first
         | (refine step_append_rd _ rfl (.tmp 81) (.tmp 83) _ rfl w.heap.size 34 j0 _ 4 48 Tryd.underlying29 hj0 hj1 hj2 hj3 rfl (by omega) V cv k _ rfl h22.oV (some ⟨wc.heap.size, 0, none⟩) 1 1 [.int .u64 (U : Int), .int .u64 (V1 : Int), .slice A n2 c2, .bool false] rfl ev22 (one4 _ _ _ _ _ _) (by simp only [maxLen]; omega) (by omega) h22.kp.size ?_; intro V2 cv2 w5 oo hg hat; have h5 := h22.stepV hg oo hat; have t5 := t22.grown hg nV1 nV2; have s5 : (fun w' => w'.cell? ⟨wr.heap.size + 1, 0, none⟩ = some (.int .u64 (U : Int)) ∧ w'.cell? ⟨wr.heap.size + 1, 1, none⟩ = some (.int .u64 (V1 : Int)) ∧ w'.cell? ⟨wr.heap.size + 1, 2, none⟩ = some (.slice A n2 c2) ∧ w'.cell? ⟨wr.heap.size + 1, 3, none⟩ = some (.bool false) ∧ w'.cell? ⟨wr.heap.size + 2, 0, none⟩ = some (.int .i64 op) ∧ w'.cell? ⟨wr.heap.size + 2, 1, none⟩ = some (.int .u64 (u : Int)) ∧ w'.cell? ⟨wr.heap.size + 2, 2, none⟩ = some (.int .u64 0) ∧ w'.cell? ⟨wr.heap.size + 2, 3, none⟩ = some (.slice none 0 0)) w5 := t5.cells)
         | (refine step_append_rd _ rfl (.tmp 81) (.tmp 83) _ rfl w.heap.size 34 j0 _ 4 48 Tryd.underlying29 hj0 hj1 hj2 hj3 rfl (by omega) V cv k _ rfl h22.oV (some ⟨wc.heap.size + 1, 0, none⟩) 1 1 [.int .u64 (U : Int), .int .u64 (V1 : Int), .slice A n2 c2, .bool false] rfl ev22 (one4 _ _ _ _ _ _) (by simp only [maxLen]; omega) (by omega) h22.kp.size ?_; intro V2 cv2 w5 oo hg hat; have h5 := h22.stepV hg oo hat; have t5 := t22.grown hg nV1 nV2; have s5 : (fun w' => w'.cell? ⟨wr.heap.size + 1, 0, none⟩ = some (.int .u64 (U : Int)) ∧ w'.cell? ⟨wr.heap.size + 1, 1, none⟩ = some (.int .u64 (V1 : Int)) ∧ w'.cell? ⟨wr.heap.size + 1, 2, none⟩ = some (.slice A n2 c2) ∧ w'.cell? ⟨wr.heap.size + 1, 3, none⟩ = some (.bool false) ∧ w'.cell? ⟨wr.heap.size + 2, 0, none⟩ = some (.int .i64 op) ∧ w'.cell? ⟨wr.heap.size + 2, 1, none⟩ = some (.int .u64 (u : Int)) ∧ w'.cell? ⟨wr.heap.size + 2, 2, none⟩ = some (.int .u64 0) ∧ w'.cell? ⟨wr.heap.size + 2, 3, none⟩ = some (.slice none 0 0)) w5 := t5.cells)
         | (refine step_append_rd _ rfl (.tmp 81) (.tmp 83) _ rfl w.heap.size 34 j0 _ 4 48 Tryd.underlying29 hj0 hj1 hj2 hj3 rfl (by omega) V cv k _ rfl (h22.new ((Keeps.refl (fun _ => False) w22).alloc (.cells #[.int .u64 (U : Int), .int .u64 (V1 : Int), .slice A n2 c2, .bool false] 34))).oV (some ⟨w22.heap.size, 0, none⟩) 1 1 [.int .u64 (U : Int), .int .u64 (V1 : Int), .slice A n2 c2, .bool false] rfl (rd4new w22 34 _ _ _ _) (one4 _ _ _ _ _ _) (by simp only [maxLen]; omega) (by omega) (h22.new ((Keeps.refl (fun _ => False) w22).alloc (.cells #[.int .u64 (U : Int), .int .u64 (V1 : Int), .slice A n2 c2, .bool false] 34))).kp.size ?_; intro V2 cv2 w5 oo hg hat; have h5 := (h22.new ((Keeps.refl (fun _ => False) w22).alloc (.cells #[.int .u64 (U : Int), .int .u64 (V1 : Int), .slice A n2 c2, .bool false] 34))).stepV hg oo hat; have t5 := (t22.new ((Keeps.refl (fun _ => False) w22).alloc (.cells #[.int .u64 (U : Int), .int .u64 (V1 : Int), .slice A n2 c2, .bool false] 34))).grown hg nV1 nV2; have s5 : (fun w' => w'.cell? ⟨wr.heap.size + 1, 0, none⟩ = some (.int .u64 (U : Int)) ∧ w'.cell? ⟨wr.heap.size + 1, 1, none⟩ = some (.int .u64 (V1 : Int)) ∧ w'.cell? ⟨wr.heap.size + 1, 2, none⟩ = some (.slice A n2 c2) ∧ w'.cell? ⟨wr.heap.size + 1, 3, none⟩ = some (.bool false) ∧ w'.cell? ⟨wr.heap.size + 2, 0, none⟩ = some (.int .i64 op) ∧ w'.cell? ⟨wr.heap.size + 2, 1, none⟩ = some (.int .u64 (u : Int)) ∧ w'.cell? ⟨wr.heap.size + 2, 2, none⟩ = some (.int .u64 0) ∧ w'.cell? ⟨wr.heap.size + 2, 3, none⟩ = some (.slice none 0 0)) w5 := t5.cells)
         | (refine step_append_rd _ rfl (.tmp 77) (.tmp 79) _ rfl w.heap.size 28 i0 _ 4 48 Tryd.underlying23 hi0 hi1 hi2 hi3 rfl (by omega) K ck k _ rfl (h0.new k_akv).oK (some ⟨wc.heap.size, 0, none⟩) 1 1 [.int .i64 op, .int .u64 (u : Int), .int .u64 0, .slice none 0 0] rfl ek3 (oneA _ _ _ _ _ _) (by simp only [maxLen]; omega) (by omega) (h0.new k_akv).kp.size ?_; intro K2 ck2 w22 oo hg hat; have h22 := (h0.new k_akv).stepK hg oo hat; have t22 := t_akv.grown hg nK1 nK2; have s22 : (fun w' => w'.cell? ⟨wr.heap.size + 1, 0, none⟩ = some (.int .u64 (U : Int)) ∧ w'.cell? ⟨wr.heap.size + 1, 1, none⟩ = some (.int .u64 (V1 : Int)) ∧ w'.cell? ⟨wr.heap.size + 1, 2, none⟩ = some (.slice A n2 c2) ∧ w'.cell? ⟨wr.heap.size + 1, 3, none⟩ = some (.bool false) ∧ w'.cell? ⟨wr.heap.size + 2, 0, none⟩ = some (.int .i64 op) ∧ w'.cell? ⟨wr.heap.size + 2, 1, none⟩ = some (.int .u64 (u : Int)) ∧ w'.cell? ⟨wr.heap.size + 2, 2, none⟩ = some (.int .u64 0) ∧ w'.cell? ⟨wr.heap.size + 2, 3, none⟩ = some (.slice none 0 0)) w22 := t22.cells; have ev22 := rdGP hg ev3 (by have := lK; intro z hz hz2; have := this z hz2; simp [ob] at hz; omega))
         | (refine step_append_rd _ rfl (.tmp 77) (.tmp 79) _ rfl w.heap.size 28 i0 _ 4 48 Tryd.underlying23 hi0 hi1 hi2 hi3 rfl (by omega) K ck k _ rfl (h0.new k_avk).oK (some ⟨wc.heap.size + 1, 0, none⟩) 1 1 [.int .i64 op, .int .u64 (u : Int), .int .u64 0, .slice none 0 0] rfl ek4 (oneA _ _ _ _ _ _) (by simp only [maxLen]; omega) (by omega) (h0.new k_avk).kp.size ?_; intro K2 ck2 w22 oo hg hat; have h22 := (h0.new k_avk).stepK hg oo hat; have t22 := t_avk.grown hg nK1 nK2; have s22 : (fun w' => w'.cell? ⟨wr.heap.size + 1, 0, none⟩ = some (.int .u64 (U : Int)) ∧ w'.cell? ⟨wr.heap.size + 1, 1, none⟩ = some (.int .u64 (V1 : Int)) ∧ w'.cell? ⟨wr.heap.size + 1, 2, none⟩ = some (.slice A n2 c2) ∧ w'.cell? ⟨wr.heap.size + 1, 3, none⟩ = some (.bool false) ∧ w'.cell? ⟨wr.heap.size + 2, 0, none⟩ = some (.int .i64 op) ∧ w'.cell? ⟨wr.heap.size + 2, 1, none⟩ = some (.int .u64 (u : Int)) ∧ w'.cell? ⟨wr.heap.size + 2, 2, none⟩ = some (.int .u64 0) ∧ w'.cell? ⟨wr.heap.size + 2, 3, none⟩ = some (.slice none 0 0)) w22 := t22.cells; have ev22 := rdGP hg ev4 (by have := lK; intro z hz hz2; have := this z hz2; simp [ob] at hz; omega))
         | (refine step_append_rd _ rfl (.tmp 77) (.tmp 79) _ rfl w.heap.size 28 i0 _ 4 48 Tryd.underlying23 hi0 hi1 hi2 hi3 rfl (by omega) K ck k _ rfl (h0.new k_ak).oK (some ⟨wc.heap.size, 0, none⟩) 1 1 [.int .i64 op, .int .u64 (u : Int), .int .u64 0, .slice none 0 0] rfl ek1 (oneA _ _ _ _ _ _) (by simp only [maxLen]; omega) (by omega) (h0.new k_ak).kp.size ?_; intro K2 ck2 w22 oo hg hat; have h22 := (h0.new k_ak).stepK hg oo hat; have t22 := t_ak.grown hg nK1 nK2; have s22 : (fun w' => w'.cell? ⟨wr.heap.size + 1, 0, none⟩ = some (.int .u64 (U : Int)) ∧ w'.cell? ⟨wr.heap.size + 1, 1, none⟩ = some (.int .u64 (V1 : Int)) ∧ w'.cell? ⟨wr.heap.size + 1, 2, none⟩ = some (.slice A n2 c2) ∧ w'.cell? ⟨wr.heap.size + 1, 3, none⟩ = some (.bool false) ∧ w'.cell? ⟨wr.heap.size + 2, 0, none⟩ = some (.int .i64 op) ∧ w'.cell? ⟨wr.heap.size + 2, 1, none⟩ = some (.int .u64 (u : Int)) ∧ w'.cell? ⟨wr.heap.size + 2, 2, none⟩ = some (.int .u64 0) ∧ w'.cell? ⟨wr.heap.size + 2, 3, none⟩ = some (.slice none 0 0)) w22 := t22.cells; have s22a : (fun w' => w'.cell? ⟨wr.heap.size + 1, 0, none⟩ = some (.int .u64 (U : Int)) ∧ w'.cell? ⟨wr.heap.size + 1, 1, none⟩ = some (.int .u64 (V1 : Int)) ∧ w'.cell? ⟨wr.heap.size + 1, 2, none⟩ = some (.slice A n2 c2) ∧ w'.cell? ⟨wr.heap.size + 1, 3, none⟩ = some (.bool false) ∧ w'.cell? ⟨wr.heap.size + 2, 0, none⟩ = some (.int .i64 op) ∧ w'.cell? ⟨wr.heap.size + 2, 1, none⟩ = some (.int .u64 (u : Int)) ∧ w'.cell? ⟨wr.heap.size + 2, 2, none⟩ = some (.int .u64 0) ∧ w'.cell? ⟨wr.heap.size + 2, 3, none⟩ = some (.slice none 0 0)) (w22.alloc (.cells #[.int .u64 (U : Int), .int .u64 (V1 : Int), .slice A n2 c2, .bool false] 34)) := (t22.new ((Keeps.refl _ _).alloc _)).cells))
        all_goals
          rw [HST2.out.1, HST2.out.2] at h5
          have H5 := Lib.hid h5
          clear h5 t5 s5 t22 s22 t_a t_ak t_av t_akv t_avk s_a s_ak s_av s_akv s_avk ek1 ek3 ek4 ev2 ev3 ev4 k_a k_ak k_av k_akv k_avk
          go_wp2_with fail
          go_roundg (n - (k + 1))
          case measure => omega
          case rel => exact ⟨k + 1, K2, ck2, V2, cv2, by omega, rfl, rfl, rfl, by go_num, by rw [HKV.out.1, HKV.out.2]; exact H5.out⟩
    · obtain rfl : k = n := by omega
      rw [List.take_of_length_le (show l.length ≤ k by rw [HE.out.len]; exact Nat.le_refl _)] at hP
      have HP := Lib.hid hP
      clear hP
      go_wp2_with fail
      go_ret2
      refine ⟨K, ck, V, cv, rfl, own_cap HP.out.oV, ⟨by rw [asksL, List.length_map, HE.out.len], Rd.own HP.out.oK, fun b hb => ?_⟩, ⟨by rw [wantL, List.length_map, HE.out.len], Rd.own HP.out.oV, fun b hb => ?_⟩, HP.out.kp⟩
      · obtain ⟨a, ha, rfl⟩ := List.mem_map.mp hb
        exact Rd.none'
      · obtain ⟨a, ha, rfl⟩ := List.mem_map.mp hb
        exact want_bytes (HQ.out a ha).1.1 (HQ.out a ha).1.2.1 (((HE.out.new HP.out.kp).bytes a ha))
end Go.Proofs.YthfoleapdmpdfaaDoor
