/- Prim.get of any value that is asked for, and PRGet: a Reader is asked for values one behind the other. Conditions: the Ops are from 1 to 22; lengths are at most 1000. -/
import Derived.Test.YthfoleapdmpdfaaDoorRq
namespace Go.Proofs.YthfoleapdmpdfaaDoor
open Go.RowKit Go.Lib
set_option linter.unusedVariables false
set_option maxRecDepth 100000 in
set_option maxHeartbeats 4000000 in
theorem getMore (w : World) (base rb bb : Nat) (D R : Option Nat) (d : List UInt8) (hR : RdrOn w base rb bb D R d) (hD : ∀ i, D = some i → i < w.heap.size) (u v : Int) (S : Option Addr) (n c : Nat) (op : Int) (h11 : 11 ≤ op) (o : Option GotL) (hM : ∀ W, Keeps (fun _ => False) w W → Calls Tryd.prog 47 #[.agg #[.int .i64 op, .int .u64 u, .int .u64 v, .slice S n c], .pointer (some ⟨rb, 0, none⟩)] W (GetOk W base rb bb D R o)) :
    Calls Tryd.prog 25 #[.agg #[.int .i64 op, .int .u64 u, .int .u64 v, .slice S n c], .pointer (some ⟨rb, 0, none⟩)] w (GetOk w base rb bb D R o) := by
  obtain ⟨K0, hp0, hg1, hg2⟩ := start3 w 28 34 #[.int .i64 op, .int .u64 u, .int .u64 v, .slice S n c] #[.int .u64 0, .int .u64 0, .slice none 0 0, .bool false] #[.int .u64 0, .int .u64 0, .slice none 0 0, .bool false]
  have HK0 := Lib.hid K0
  have HG1 := Lib.hid hg1
  have HR := Lib.hid hR
  have HN := Lib.hid (own_new hR)
  have HD := Lib.hid hD
  have HU := Lib.hid (hM _ K0)
  have HSZ := Lib.hid (size3 w (.cells #[.int .i64 op, .int .u64 u, .int .u64 v, .slice S n c] 28) (.cells #[.int .u64 0, .int .u64 0, .slice none 0 0, .bool false] 34) (.cells #[.int .u64 0, .int .u64 0, .slice none 0 0, .bool false] 34))
  have e1 : (op == 1) = false := by simp; omega
  have e2 : (op == 2) = false := by simp; omega
  have e3 : (op == 3) = false := by simp; omega
  have e4 : (op == 4) = false := by simp; omega
  have e5 : (op == 5) = false := by simp; omega
  have e6 : (op == 6) = false := by simp; omega
  have e7 : (op == 7) = false := by simp; omega
  have e8 : (op == 8) = false := by simp; omega
  have e9 : (op == 9) = false := by simp; omega
  have e10 : (op == 10) = false := by simp; omega
  clear hR K0 hp0 hg1 hg2 hD hM
  go_enter Tryd.func25, Tryd.ntmps25
  go_wp2_with fail
  refine HU.out.mono ?_
  intro e w4 hres
  have hres0 := hres
  obtain ⟨k4, v0, v1, A, n1, c1, v3, he⟩ : ∃ (k4 : Keeps (fun i => i = rb ∨ i = bb ∨ R = some i) (((w.alloc (.cells #[.int .i64 op, .int .u64 u, .int .u64 v, .slice S n c] 28)).alloc (.cells #[.int .u64 0, .int .u64 0, .slice none 0 0, .bool false] 34)).alloc (.cells #[.int .u64 0, .int .u64 0, .slice none 0 0, .bool false] 34)) w4) (v0 v1 : Int) (A : Option Addr) (n1 c1 : Nat) (v3 : Bool), e = .returned (.agg #[.int .u64 v0, .int .u64 v1, .slice A n1 c1, .bool v3]) := by
    rcases hres with ⟨U, V, S1, l, A, c1, R', _, he, _, _, hk, _, _⟩ | ⟨l, _, he, hgo⟩
    · exact ⟨hk, _, _, _, _, _, _, he⟩
    · exact ⟨hgo.keeps, _, _, _, _, _, _, he⟩
  subst he
  have HRES := Lib.hid hres0
  clear hres hres0
  have h1 := HG1.out.keeps k4 (HN.out _ (.inl rfl))
  have b0 : w4.cell? ⟨w.heap.size + 1, 0, none⟩ = some (.int .u64 0) := h1.cell 0
  have b1 : w4.cell? ⟨w.heap.size + 1, 1, none⟩ = some (.int .u64 0) := h1.cell 1
  have b2 : w4.cell? ⟨w.heap.size + 1, 2, none⟩ = some (.slice none 0 0) := h1.cell 2
  have b3 : w4.cell? ⟨w.heap.size + 1, 3, none⟩ = some (.bool false) := h1.cell 3
  have z10 : w4.frozen? ⟨w.heap.size + 1, 0, none⟩ = false := h1.frozen 0
  have z11 : w4.frozen? ⟨w.heap.size + 1, 1, none⟩ = false := h1.frozen 1
  have z12 : w4.frozen? ⟨w.heap.size + 1, 2, none⟩ = false := h1.frozen 2
  have z13 : w4.frozen? ⟨w.heap.size + 1, 3, none⟩ = false := h1.frozen 3
  have hl1 := h1.lt
  go_wp2_with fail
  have r1 := (((h1.put 0 (.int .u64 v0)).put 1 (.int .u64 v1)).put 2 (.slice A n1 c1)).put 3 (.bool v3)
  have hld := run_loadVar_row (P := Tryd.prog) _ (w.heap.size + 1) 34 34 _ (0, 0) _ r1 Tryd.underlying34 rfl infoGot
  have k5 := (((((Keeps.refl (fun i => w.heap.size ≤ i ∧ i < (((w.alloc (.cells #[.int .i64 op, .int .u64 u, .int .u64 v, .slice S n c] 28)).alloc (.cells #[.int .u64 0, .int .u64 0, .slice none 0 0, .bool false] 34)).alloc (.cells #[.int .u64 0, .int .u64 0, .slice none 0 0, .bool false] 34)).heap.size) w4).setCell (p := ⟨w.heap.size + 1, 0, none⟩) (.inl ⟨by show w.heap.size ≤ w.heap.size + 1; omega, by rw [HSZ.out]; show w.heap.size + 1 < _; omega⟩) (.int .u64 v0)).setCell (p := ⟨w.heap.size + 1, 1, none⟩) (.inl ⟨by show w.heap.size ≤ w.heap.size + 1; omega, by rw [HSZ.out]; show w.heap.size + 1 < _; omega⟩) (.int .u64 v1)).setCell (p := ⟨w.heap.size + 1, 2, none⟩) (.inl ⟨by show w.heap.size ≤ w.heap.size + 1; omega, by rw [HSZ.out]; show w.heap.size + 1 < _; omega⟩) (.slice A n1 c1)).setCell (p := ⟨w.heap.size + 1, 3, none⟩) (.inl ⟨by show w.heap.size ≤ w.heap.size + 1; omega, by rw [HSZ.out]; show w.heap.size + 1 < _; omega⟩) (.bool v3))
  exact bodyPost_ret (results_cell1 rfl _ ⟨w.heap.size + 1, 0, none⟩ _ _ rfl hld) rfl (GetOk.lift HR.out HK0.out HRES.out k5 HD.out)

/-- Of which values a length is read that must be small. -/
def lenOp (op : Nat) : Bool := op = 17 || op = 18 || op = 20 || op = 21 || op = 22
theorem getAny (w : World) (base rb bb : Nat) (D R : Option Nat) (d : List UInt8) (hR : RdrOn w base rb bb D R d) (hD : ∀ i, D = some i → i < w.heap.size) (op : Int) (h1 : 1 ≤ op) (h22 : op ≤ 22) (u : Nat) (v : Int) (S : Option Addr) (c : Nat) (s0 : List UInt8) (hPS : Rd w 1 S s0.length (Lib.byteCells s0)) (hs0 : s0.length ≤ 1000) (hu : op = 19 → u ≤ 1000) (hX : lenOp op.toNat = true → ∀ x l, uvGo 10 0 0 d = some (x, l) → x ≤ 1000) :
    Calls Tryd.prog 25 #[.agg #[.int .i64 op, .int .u64 (u : Int), .int .u64 v, .slice S s0.length c], .pointer (some ⟨rb, 0, none⟩)] w (GetOk w base rb bb D R (getM op.toNat u s0 d)) := by
  have hop : op = 1 ∨ op = 2 ∨ op = 3 ∨ op = 4 ∨ op = 5 ∨ op = 6 ∨ op = 7 ∨ op = 8 ∨ op = 9 ∨ op = 10 ∨ op = 11 ∨ op = 12 ∨ op = 13 ∨ op = 14 ∨ op = 15 ∨ op = 16 ∨ op = 17 ∨ op = 18 ∨ op = 19 ∨ op = 20 ∨ op = 21 ∨ op = 22 := by omega
  clear h1 h22
  rcases hop with rfl | rfl | rfl | rfl | rfl | rfl | rfl | rfl | rfl | rfl | rfl | rfl | rfl | rfl | rfl | rfl | rfl | rfl | rfl | rfl | rfl | rfl
  · exact get1 w base rb bb D R d hR hD _ _ _ _ _
  · exact get2 w base rb bb D R d hR hD _ _ _ _ _
  · exact get3 w base rb bb D R d hR hD _ _ _ _ _
  · exact get4 w base rb bb D R d hR hD _ _ _ _ _
  · exact get5 w base rb bb D R d hR hD _ _ _ _ _
  · exact get6 w base rb bb D R d hR hD _ _ _ _ _
  · exact get7 w base rb bb D R d hR hD _ _ _ _ _
  · exact get8 w base rb bb D R d hR hD _ _ _ _ _
  · exact get9 w base rb bb D R d hR hD _ _ _ _ _
  · exact get10 w base rb bb D R d hR hD _ _ _ _ _
  · exact getMore w base rb bb D R d hR hD _ _ _ _ _ 11 (by decide) _ (fun W k => mr11 W base rb bb D R d (hR.new k) (fun i hi => Nat.lt_of_lt_of_le (hD i hi) k.size) _ _ _ _ _)
  · exact getMore w base rb bb D R d hR hD _ _ _ _ _ 12 (by decide) _ (fun W k => mr12 W base rb bb D R d (hR.new k) (fun i hi => Nat.lt_of_lt_of_le (hD i hi) k.size) _ _ _ _ _)
  · exact getMore w base rb bb D R d hR hD _ _ _ _ _ 13 (by decide) _ (fun W k => mr13 W base rb bb D R d (hR.new k) (fun i hi => Nat.lt_of_lt_of_le (hD i hi) k.size) _ _ _ _ _)
  · exact getMore w base rb bb D R d hR hD _ _ _ _ _ 14 (by decide) _ (fun W k => mr14 W base rb bb D R d (hR.new k) (fun i hi => Nat.lt_of_lt_of_le (hD i hi) k.size) _ _ _ _ _)
  · exact getMore w base rb bb D R d hR hD _ _ _ _ _ 15 (by decide) _ (fun W k => mr15 W base rb bb D R d (hR.new k) (fun i hi => Nat.lt_of_lt_of_le (hD i hi) k.size) _ _ _ _ _)
  · exact getMore w base rb bb D R d hR hD _ _ _ _ _ 16 (by decide) _ (fun W k => mr16 W base rb bb D R d (hR.new k) (fun i hi => Nat.lt_of_lt_of_le (hD i hi) k.size) _ _ _ _ _)
  · exact getMore w base rb bb D R d hR hD _ _ _ _ _ 17 (by decide) _ (fun W k => mr17 W base rb bb D R d (hR.new k) (fun i hi => Nat.lt_of_lt_of_le (hD i hi) k.size) _ _ _ _ _ (hX (by decide)))
  · exact getMore w base rb bb D R d hR hD _ _ _ _ _ 18 (by decide) _ (fun W k => mr18 W base rb bb D R d (hR.new k) (fun i hi => Nat.lt_of_lt_of_le (hD i hi) k.size) _ _ _ _ _ (hX (by decide)))
  · exact getMore w base rb bb D R d hR hD _ _ _ _ _ 19 (by decide) _ (fun W k => mr19 W base rb bb D R d (hR.new k) (fun i hi => Nat.lt_of_lt_of_le (hD i hi) k.size) _ _ _ _ _ u (hu rfl) rfl)
  · exact getMore w base rb bb D R d hR hD _ _ _ _ _ 20 (by decide) _ (fun W k => mr20 W base rb bb D R d (hR.new k) (fun i hi => Nat.lt_of_lt_of_le (hD i hi) k.size) _ _ _ _ _ (hX (by decide)))
  · exact getMore w base rb bb D R d hR hD _ _ _ _ _ 21 (by decide) _ (fun W k => mr21 W base rb bb D R d (hR.new k) (fun i hi => Nat.lt_of_lt_of_le (hD i hi) k.size) _ _ _ _ _ (hX (by decide)))
  · exact getMore w base rb bb D R d hR hD _ _ _ _ _ 22 (by decide) _ (fun W k => mr22 W base rb bb D R d (hR.new k) (fun i hi => Nat.lt_of_lt_of_le (hD i hi) k.size) _ _ _ _ _ (hX (by decide)) s0 rfl (hPS.keeps k (fun _ _ h => h)) hs0)
end Go.Proofs.YthfoleapdmpdfaaDoor
