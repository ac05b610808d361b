/- The specification reads any value from the front of some bytes. Conditions: its table of widths is laid. -/
import Derived.Test.YthfoleapdmpdfaaDoorPsG
namespace Go.Proofs.YthfoleapdmpdfaaDoor
open Go.RowKit Go.Lib
set_option linter.unusedVariables false
/-- What spec.PRRead answers. -/
def ReadR (A : Option Addr) (wz : Nat) (w' : World) (d : List UInt8) (op u : Nat) (s : List UInt8) (e : Ending) : Prop :=
  (lenOp op = true ∧ (∃ x l, uvGo 10 0 0 d = some (x, l) ∧ 1000 < x) ∧ ∃ x n, e = gotX x n) ∨
  ((lenOp op = true → ∀ x l, uvGo 10 0 0 d = some (x, l) → x ≤ 1000) ∧
    ((∃ U V S l A' c', getM op u s d = some (U, V, S, l) ∧ l.length ≤ d.length ∧ l = d.drop (d.length - l.length) ∧ e = .returned (.tuple #[.agg #[.int .u64 (U : Int), .int .u64 (V : Int), .slice A' S.length c', .bool false], .int .i64 ((d.length - l.length : Nat) : Int), .bool true]) ∧ Rd w' 1 A' S.length (Lib.byteCells S) ∧ ∀ i, ob A' = some i → ob A = some i ∨ wz ≤ i) ∨
     (getM op u s d = none ∧ ∃ n, e = gotE n)))
theorem numR {A : Option Addr} {wz : Nat} {w' : World} {d s : List UInt8} {op u K : Nat} {e : Ending} (h : G1 d K e) (hK : K ≤ 8) (hl : lenOp op = false) (hg : getM op u s d = numM K d) : ReadR A wz w' d op u s e := by
  refine .inr ⟨(fun h => by rw [hl] at h; cases h), ?_⟩
  rcases h with ⟨hle, he⟩ | ⟨hlt, he⟩
  · refine .inl ⟨leNat (d.take K), 0, [], d.drop K, none, 0, by rw [hg, numM, if_neg (by omega)], by rw [List.length_drop]; omega, by rw [List.length_drop, show d.length - (d.length - K) = K by omega], ?_, Rd.none', (fun i h => by cases h)⟩
    rw [he, gotN, Nat.min_eq_left hK, show K - 8 = 0 by omega, List.length_drop, show d.length - (d.length - K) = K by omega]
    rfl
  · exact .inr ⟨by rw [hg, numM, if_pos hlt], K, he⟩
theorem wideR {A : Option Addr} {wz : Nat} {w' : World} {d s : List UInt8} {op u : Nat} {e : Ending} (h : G1 d 16 e) (hl : lenOp op = false) (hg : getM op u s d = wideM d) : ReadR A wz w' d op u s e := by
  refine .inr ⟨(fun h => by rw [hl] at h; cases h), ?_⟩
  rcases h with ⟨hle, he⟩ | ⟨hlt, he⟩
  · refine .inl ⟨_, _, [], d.drop 16, none, 0, by rw [hg, wideM, if_neg (by omega)], by rw [List.length_drop]; omega, by rw [List.length_drop, show d.length - (d.length - 16) = 16 by omega], ?_, Rd.none', (fun i h => by cases h)⟩
    rw [he, gotN, List.length_drop, show d.length - (d.length - 16) = 16 by omega]
    rfl
  · exact .inr ⟨by rw [hg, wideM, if_pos hlt], _, he⟩
theorem boolR {A : Option Addr} {wz : Nat} {w' : World} {d s : List UInt8} {u : Nat} {e : Ending} (h : G2 d e) : ReadR A wz w' d 2 u s e := by
  refine .inr ⟨(fun h => by cases h), ?_⟩
  rcases h with ⟨U, V, S, l, hb, rfl, rfl, hd, he⟩ | ⟨hb, he⟩
  · refine .inl ⟨U, 0, [], l, none, 0, hb, by rw [hd]; simp, by rw [hd, List.length_cons, show l.length + 1 - l.length = 1 by omega]; rfl, ?_, Rd.none', (fun i h => by cases h)⟩
    rw [he, gotN, hd, List.length_cons, show l.length + 1 - l.length = 1 by omega]
    rfl
  · exact .inr ⟨hb, _, he⟩
theorem varR {A : Option Addr} {wz : Nat} {w' : World} {d s : List UInt8} {op u : Nat} {e : Ending} (h : G3 d e) (hl : lenOp op = false) (hg : getM op u s d = varM d) : ReadR A wz w' d op u s e := by
  refine .inr ⟨(fun h => by rw [hl] at h; cases h), ?_⟩
  rcases h with ⟨x, l, hu, hle, he⟩ | ⟨hu, he⟩
  · exact .inl ⟨x, 0, [], l, none, 0, by rw [hg, varM, hu]; rfl, hle, (uvGo_suffix _ _ _ _ _ _ hu).1, by rw [he]; rfl, Rd.none', (fun i h => by cases h)⟩
  · exact .inr ⟨by rw [hg, varM, hu]; rfl, _, he⟩
theorem rawR {A : Option Addr} {wz : Nat} {w' : World} {d s : List UInt8} {u : Nat} {e : Ending} (h : G4 A w' d u e) : ReadR A wz w' d 19 u s e := by
  refine .inr ⟨(fun h => by cases h), ?_⟩
  rcases h with ⟨hlt, he⟩ | ⟨hle, c', he, hr⟩
  · exact .inr ⟨show rawM u d = none by rw [rawM, cutR, if_pos hlt]; rfl, _, he⟩
  · have hln : (d.take u).length = u := by rw [List.length_take]; omega
    refine .inl ⟨0, 0, d.take u, d.drop u, A, c', show rawM u d = _ by rw [rawM, cutR, if_neg (by omega)]; rfl, by rw [List.length_drop]; omega, by rw [List.length_drop, show d.length - (d.length - u) = u by omega], ?_, by rw [hln]; exact hr, fun i hi => .inl hi⟩
    rw [he, gotS, hln, List.length_drop, show d.length - (d.length - u) = u by omega]
    rfl
theorem lenR {A : Option Addr} {wz : Nat} {w' : World} {d s : List UInt8} {u : Nat} {op : Int} {e : Ending} (h : G5 wz w' d op s e) (hop : op = 17 ∨ op = 18 ∨ op = 20 ∨ op = 21 ∨ op = 22) : ReadR A wz w' d op.toNat u s e := by
  have hl : lenOp op.toNat = true := by rcases hop with rfl | rfl | rfl | rfl | rfl <;> rfl
  have hg : getM op.toNat u s d = if op = 17 then varM d else strM (if op = 22 then s else []) d := by rcases hop with rfl | rfl | rfl | rfl | rfl <;> rfl
  cases h with
  | bad h he =>
    refine .inr ⟨(fun _ x l hu => by rw [h] at hu; cases hu), .inr ⟨?_, _, he⟩⟩
    rw [hg]
    split
    · rw [varM, h]; rfl
    · rw [strM, cutS_none h]; rfl
  | big x l h hx n he => exact .inl ⟨hl, ⟨x, l, h, hx⟩, x, n, he⟩
  | len x l h hx ho he =>
    obtain ⟨h1, h2⟩ := uvGo_suffix _ _ _ _ _ _ h
    exact .inr ⟨(fun _ y m hu => by rw [h] at hu; injection hu with hu; injection hu with hu; omega), .inl ⟨x, 0, [], l, none, 0, by rw [hg, if_pos ho, varM, h]; rfl, h2, h1, by rw [he]; rfl, Rd.none', (fun i h => by cases h)⟩⟩
  | short x l h hx ho hlt he =>
    exact .inr ⟨(fun _ y m hu => by rw [h] at hu; injection hu with hu; injection hu with hu; omega), .inr ⟨by rw [hg, if_neg ho, strM, cutS_short h hlt]; rfl, _, he⟩⟩
  | good x l h hx ho hle A' c' S hS he hr hf =>
    obtain ⟨h1, h2⟩ := uvGo_suffix _ _ _ _ _ _ h
    have hd : (l.drop x).length = l.length - x := List.length_drop
    have hk : d.length - (l.length - x) = d.length - l.length + x := by omega
    refine .inr ⟨(fun _ y m hu => by rw [h] at hu; injection hu with hu; injection hu with hu; omega), .inl ⟨0, 0, S, l.drop x, A', c', by rw [hg, if_neg ho, strM, cutS_some h hle, hS]; rfl, by rw [hd]; omega, ?_, by rw [he, gotS, hd, hk]; rfl, hr, fun i hi => .inr (hf i hi)⟩⟩
    rw [hd, hk, ← List.drop_drop, ← h1]
theorem prReadOne (w : World) (hW : WidthsV w) (A : Option Addr) (c : Nat) (d : List UInt8) (hdl : d.length ≤ 1000) (hR : Rd w 1 A d.length (Lib.byteCells d)) (op : Int) (h1 : 1 ≤ op) (h22 : op ≤ 22) (u : Nat) (v : Int) (P : Option Addr) (cp : Nat) (s0 : List UInt8) (hP : Rd w 1 P s0.length (Lib.byteCells s0)) (hs0 : s0.length ≤ 1000) (hc : d.length ≤ c) (hu : op = 19 → u ≤ 1000) : Calls Tryd.prog 23 #[.slice A d.length c, .agg #[.int .i64 op, .int .u64 (u : Int), .int .u64 v, .slice P s0.length cp]] w fun e w' => ReadR A w.heap.size w' d op.toNat u s0 e ∧ Keeps (fun _ => False) w w' := by
  have hop : op = 1 ∨ op = 2 ∨ op = 3 ∨ op = 4 ∨ op = 5 ∨ op = 6 ∨ op = 7 ∨ op = 8 ∨ op = 9 ∨ op = 10 ∨ op = 11 ∨ op = 12 ∨ op = 13 ∨ op = 14 ∨ op = 15 ∨ op = 16 ∨ op = 17 ∨ op = 18 ∨ op = 19 ∨ op = 20 ∨ op = 21 ∨ op = 22 := by omega
  rcases hop with rfl | rfl | rfl | rfl | rfl | rfl | rfl | rfl | rfl | rfl | rfl | rfl | rfl | rfl | rfl | rfl | rfl | rfl | rfl | rfl | rfl | rfl
  · exact (rdG1 w hW A c d hdl hR _ h1 h22 u v P s0.length cp (by decide) 1 rfl (by decide) (by decide)).mono fun e w' h => ⟨numR h.1 (by decide) rfl rfl, h.2⟩
  · exact (rdG2 w hW A c d hdl hR _ h1 h22 u v P s0.length cp rfl).mono fun e w' h => ⟨boolR h.1, h.2⟩
  · exact (rdG1 w hW A c d hdl hR _ h1 h22 u v P s0.length cp (by decide) 1 rfl (by decide) (by decide)).mono fun e w' h => ⟨numR h.1 (by decide) rfl rfl, h.2⟩
  · exact (rdG1 w hW A c d hdl hR _ h1 h22 u v P s0.length cp (by decide) 2 rfl (by decide) (by decide)).mono fun e w' h => ⟨numR h.1 (by decide) rfl rfl, h.2⟩
  · exact (rdG1 w hW A c d hdl hR _ h1 h22 u v P s0.length cp (by decide) 4 rfl (by decide) (by decide)).mono fun e w' h => ⟨numR h.1 (by decide) rfl rfl, h.2⟩
  · exact (rdG1 w hW A c d hdl hR _ h1 h22 u v P s0.length cp (by decide) 8 rfl (by decide) (by decide)).mono fun e w' h => ⟨numR h.1 (by decide) rfl rfl, h.2⟩
  · exact (rdG1 w hW A c d hdl hR _ h1 h22 u v P s0.length cp (by decide) 1 rfl (by decide) (by decide)).mono fun e w' h => ⟨numR h.1 (by decide) rfl rfl, h.2⟩
  · exact (rdG1 w hW A c d hdl hR _ h1 h22 u v P s0.length cp (by decide) 2 rfl (by decide) (by decide)).mono fun e w' h => ⟨numR h.1 (by decide) rfl rfl, h.2⟩
  · exact (rdG1 w hW A c d hdl hR _ h1 h22 u v P s0.length cp (by decide) 4 rfl (by decide) (by decide)).mono fun e w' h => ⟨numR h.1 (by decide) rfl rfl, h.2⟩
  · exact (rdG1 w hW A c d hdl hR _ h1 h22 u v P s0.length cp (by decide) 8 rfl (by decide) (by decide)).mono fun e w' h => ⟨numR h.1 (by decide) rfl rfl, h.2⟩
  · exact (rdG1 w hW A c d hdl hR _ h1 h22 u v P s0.length cp (by decide) 4 rfl (by decide) (by decide)).mono fun e w' h => ⟨numR h.1 (by decide) rfl rfl, h.2⟩
  · exact (rdG1 w hW A c d hdl hR _ h1 h22 u v P s0.length cp (by decide) 8 rfl (by decide) (by decide)).mono fun e w' h => ⟨numR h.1 (by decide) rfl rfl, h.2⟩
  · exact (rdG1 w hW A c d hdl hR _ h1 h22 u v P s0.length cp (by decide) 16 rfl (by decide) (by decide)).mono fun e w' h => ⟨wideR h.1 rfl rfl, h.2⟩
  · exact (rdG1 w hW A c d hdl hR _ h1 h22 u v P s0.length cp (by decide) 16 rfl (by decide) (by decide)).mono fun e w' h => ⟨wideR h.1 rfl rfl, h.2⟩
  · exact (rdG3 w hW A c d hdl hR _ h1 h22 u v P s0.length cp (by decide)).mono fun e w' h => ⟨varR h.1 rfl rfl, h.2⟩
  · exact (rdG3 w hW A c d hdl hR _ h1 h22 u v P s0.length cp (by decide)).mono fun e w' h => ⟨varR h.1 rfl rfl, h.2⟩
  · exact (rdG5 w hW A c d hdl hR _ h1 h22 u v P s0.length cp (by decide) hc s0 rfl hP hs0).mono fun e w' h => ⟨lenR h.1 (by decide), h.2⟩
  · exact (rdG5 w hW A c d hdl hR _ h1 h22 u v P s0.length cp (by decide) hc s0 rfl hP hs0).mono fun e w' h => ⟨lenR h.1 (by decide), h.2⟩
  · exact (rdG4 w hW A c d hdl hR _ h1 h22 u v P s0.length cp rfl (hu rfl) hc).mono fun e w' h => ⟨rawR h.1, h.2⟩
  · exact (rdG5 w hW A c d hdl hR _ h1 h22 u v P s0.length cp (by decide) hc s0 rfl hP hs0).mono fun e w' h => ⟨lenR h.1 (by decide), h.2⟩
  · exact (rdG5 w hW A c d hdl hR _ h1 h22 u v P s0.length cp (by decide) hc s0 rfl hP hs0).mono fun e w' h => ⟨lenR h.1 (by decide), h.2⟩
  · exact (rdG5 w hW A c d hdl hR _ h1 h22 u v P s0.length cp (by decide) hc s0 rfl hP hs0).mono fun e w' h => ⟨lenR h.1 (by decide), h.2⟩
end Go.Proofs.YthfoleapdmpdfaaDoor
