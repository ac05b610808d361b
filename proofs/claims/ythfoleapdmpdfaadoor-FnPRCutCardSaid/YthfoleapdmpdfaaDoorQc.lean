/- Prim.put of any value, and PRPut of any values. Conditions: the Ops are from 1 to 19; strings are of at most 1000 bytes. -/
import Derived.Test.YthfoleapdmpdfaaDoorQb
import Derived.Test.YthfoleapdmpdfaaDoorRp
namespace Go.Proofs.YthfoleapdmpdfaaDoor
open Go.RowKit Go.Lib
set_option linter.unusedVariables false
/-- The bytes of a value that is put. -/
def primB (op u v : Nat) (s : List UInt8) : List UInt8 :=
  if op = 1 then [UInt8.ofNat u] else if op = 2 then [if u = 0 then 0 else 1] else if op = 3 then [UInt8.ofNat u] else if op = 4 then leb 2 (u % 65536) else if op = 5 then leb 4 (u % 4294967296) else if op = 6 then leb 8 (u % 18446744073709551616) else if op = 7 then [UInt8.ofNat u] else if op = 8 then leb 2 (u % 65536) else if op = 9 then leb 4 (u % 4294967296) else if op = 10 then leb 8 u else if op = 11 then leb 4 (u % 4294967296) else if op = 12 then leb 8 u else if op = 13 then leb 8 u ++ leb 8 v else if op = 14 then leb 8 u ++ leb 8 v else if op = 15 then Lib.uvarint u else if op = 16 then Lib.uvarint u else if op = 17 then Lib.uvarint u else if op = 18 then Lib.uvarint s.length ++ s else s
theorem ptAny (w : World) (base bb : Nat) (A : Option Addr) (c : Nat) (l : List UInt8) (hB : BufAt w base bb A c l) (hn : l.length ≤ 1000000) (op : Int) (h1 : 1 ≤ op) (h19 : op ≤ 19) (u : Nat) (hu : u < 18446744073709551616) (v : Int) (hv : 0 ≤ v) (S : Option Addr) (n cs : Nat) (s0 : List UInt8) (hs0 : s0.length ≤ 1000) (hnn : n = s0.length) (hS : Rd w 1 S n (Lib.byteCells s0)) (h63 : op = 16 ∨ op = 17 → u < 9223372036854775808) :
    Calls Tryd.prog 30 #[.agg #[.int .i64 op, .int .u64 (u : Int), .int .u64 v, .slice S n cs], .pointer (some ⟨bb, 0, none⟩)] w (PutOk w base bb A l (primB op.toNat u v.toNat s0)) := by
  have hop : op = 1 ∨ op = 2 ∨ op = 3 ∨ op = 4 ∨ op = 5 ∨ op = 6 ∨ op = 7 ∨ op = 8 ∨ op = 9 ∨ op = 10 ∨ op = 11 ∨ op = 12 ∨ op = 13 ∨ op = 14 ∨ op = 15 ∨ op = 16 ∨ op = 17 ∨ op = 18 ∨ op = 19 := by omega
  clear h1 h19
  rcases hop with rfl | rfl | rfl | rfl | rfl | rfl | rfl | rfl | rfl | rfl | rfl | rfl | rfl | rfl | rfl | rfl | rfl | rfl | rfl
  · exact pt1 w base bb A c l hB (by omega) u hu v S n cs
  · exact pt2 w base bb A c l hB hn u v S n cs
  · exact pt3 w base bb A c l hB (by omega) u hu v S n cs
  · exact pt4 w base bb A c l hB (by omega) u hu v S n cs
  · exact pt5 w base bb A c l hB (by omega) u hu v S n cs
  · exact pt6 w base bb A c l hB (by omega) u hu v S n cs
  · exact pt7 w base bb A c l hB (by omega) u hu v S n cs
  · exact pt8 w base bb A c l hB (by omega) u hu v S n cs
  · exact pt9 w base bb A c l hB (by omega) u hu v S n cs
  · exact pt10 w base bb A c l hB (by omega) u hu v S n cs
  · exact pt11 w base bb A c l hB (by omega) u hu v S n cs
  · exact pt12 w base bb A c l hB (by omega) u hu v S n cs
  · have h := pt13 w base bb A c l hB hn u v.toNat S n cs
    rw [Int.toNat_of_nonneg hv] at h
    exact h
  · have h := pt14 w base bb A c l hB hn u v.toNat S n cs
    rw [Int.toNat_of_nonneg hv] at h
    exact h
  · exact pt15 w base bb A c l hB (by omega) u hu v S n cs
  · exact pt16 w base bb A c l hB (by omega) u hu v S n cs (h63 (by decide))
  · exact pt17 w base bb A c l hB (by omega) u hu v S n cs (h63 (by decide))
  · exact pt18 w base bb A c l hB hn u v S n cs s0 hs0 hS
  · exact pt19 w base bb A c l hB hn u v S n cs s0 hs0 hnn hS
def askB (a : PAsk) : List UInt8 := primB a.op.toNat a.u a.v.toNat a.s
def allB (asks : List PAsk) : List UInt8 := (asks.map askB).flatten
theorem allB_snoc {asks : List PAsk} {k : Nat} {a : PAsk} (h : asks[k]? = some a) : allB (asks.take (k + 1)) = allB (asks.take k) ++ askB a := by
  rw [allB, allB, List.take_add_one, h]; simp
/-- What must hold of a value that is put. -/
def Puts (a : PAsk) : Prop := 1 ≤ a.op ∧ a.op ≤ 19 ∧ a.u < 18446744073709551616 ∧ 0 ≤ a.v ∧ a.s.length ≤ 1000 ∧ (a.op = 16 ∨ a.op = 17 → a.u < 9223372036854775808)
set_option maxRecDepth 100000 in
set_option maxHeartbeats 4000000 in
theorem putAllL (w0 w1 : World) (base pw : Nat) (Q : Option Addr) (n cq : Nat) (asks : List PAsk) (hb : base = w0.heap.size) (hK : Keeps (fun _ => False) w0 w1) (hbuf : BufAt w1 base base none 0 []) (hp : Whole w0 pw 23 #[.slice Q n cq]) (hE : AsksAt w0 Q n asks) (hn : n ≤ 10000) (hq : ∀ a ∈ asks, Puts a) (hs : ∀ k, (allB (asks.take k)).length ≤ 1000000) :
    Calls Tryd.prog 29 (#[.pointer (some ⟨base, 0, none⟩)] ++ #[.pointer (some ⟨pw, 0, none⟩)]) w1 fun e w2 => e = .returned (.tuple #[]) ∧ ∃ A c, Put w1 w2 base base none A c (allB asks) := by
  have hp1 := hp.keeps hK (fun h => h)
  have hpc : w1.cell? ⟨pw, 0, none⟩ = some (.slice Q n cq) := hp1.cell 0
  have hltp := hp1.lt
  have HB := Lib.hid hbuf
  have HE := Lib.hid hE
  have HQ := Lib.hid hq
  have HS := Lib.hid hs
  have HK := Lib.hid hK
  have HBS := Lib.hid hb
  clear hbuf hE hq hs hK hp hp1 hb
  show Calls Tryd.prog 29 #[.pointer (some ⟨base, 0, none⟩), .pointer (some ⟨pw, 0, none⟩)] w1 _
  go_enter Tryd.func29, Tryd.ntmps29
  go_wp2_with fail
  go_loopw [4, 7] (fun _ i wr => ∃ (k : Nat) (A1 : Option Addr) (c1 : Nat), k ≤ n ∧ i = .int .i64 k ∧ Put w1 wr base base none A1 c1 (allB (asks.take k))) (fun _ i _ => n - (RowKit.intOf i).toNat)
  case atStart => exact ⟨0, none, 0, Nat.zero_le _, rfl, Put.refl HB.out⟩
  case round =>
    obtain ⟨k, A1, c1, hk, rfl, hP⟩ := hrel
    have HP := Lib.hid hP
    clear hP
    have kB : Keeps (fun i => base ≤ i) w0 wr := (HK.out.mono (S' := fun i => base ≤ i) (fun _ _ h => h.elim)).trans HP.out.keeps (fun i hi h => by
      rcases h with h | h
      · omega
      · cases h)
    by_cases hlt : k < n
    · obtain ⟨a, ha⟩ : ∃ a, asks[k]? = some a := ⟨_, List.getElem?_eq_getElem (by rw [HE.out.len]; exact hlt)⟩
      obtain ⟨ad, hQ, hadb, hcell⟩ := rows4 askC askC_len HE.out.len HE.out.rows ha
      subst hQ
      have hab : ad.block < base := by rw [HBS.out]; exact hadb
      have up : ∀ (p : Addr) (u : Value), p.block = ad.block → w0.cell? p = some u → wr.cell? p = some u := fun p u hpb hu => (kB.cell (p := p) (by rw [hpb]; exact hadb) (by rw [hpb]; omega)).trans hu
      have x0 : wr.cell? (ad.add (k * 4)) = some (.int .i64 a.op) := up _ _ (by rw [blk_add]) (hcell 0 _ rfl)
      have x1 : wr.cell? ⟨(ad.add (k * 4)).block, (ad.add (k * 4)).off + 1, none⟩ = some (.int .u64 (a.u : Int)) := up _ _ (by show (ad.add (k * 4)).block = _; rw [blk_add]) (hcell 1 _ rfl)
      have x2 : wr.cell? ⟨(ad.add (k * 4)).block, (ad.add (k * 4)).off + 2, none⟩ = some (.int .u64 a.v) := up _ _ (by show (ad.add (k * 4)).block = _; rw [blk_add]) (hcell 2 _ rfl)
      have x3 : wr.cell? ⟨(ad.add (k * 4)).block, (ad.add (k * 4)).off + 3, none⟩ = some (.slice a.A a.s.length a.c) := up _ _ (by show (ad.add (k * 4)).block = _; rw [blk_add]) (hcell 3 _ rfl)
      have hRr := (HE.out.bytes a (List.mem_of_getElem? ha)).keepsI kB (fun h0 i hi h => by
        obtain ⟨a2, e, hb2, _⟩ := (HE.out.bytes a (List.mem_of_getElem? ha)).2 h0
        have : a2.block = i := by rw [e] at hi; injection hi
        have := HBS.out
        omega)
      obtain ⟨g1, g2, g3, g4, g5, g6⟩ := HQ.out a (List.mem_of_getElem? ha)
      have Ka := (Keeps.refl (fun _ => False) wr).alloc (.cells #[.int .i64 a.op, .int .u64 (a.u : Int), .int .u64 a.v, .slice a.A a.s.length a.c] 28)
      have HEB := Lib.hid (allB_snoc ha)
      have HPP := Lib.hid (ptAny _ base base A1 c1 (allB (asks.take k)) (HP.out.at'.keeps Ka (fun h => h) (fun _ _ h => h)) (HS.out k) a.op g1 g2 a.u g3 a.v g4 a.A a.s.length a.c a.s g5 rfl (hRr.keeps Ka (fun _ _ h => h)) g6)
      have HKA := Lib.hid Ka
      clear up hcell ha hRr kB Ka
      go_wp2_with fail
      refine HPP.out.mono ?_
      rintro e w3 ⟨A3, c3, rfl, hP3⟩
      rw [show primB a.op.toNat a.u a.v.toNat a.s = askB a from rfl, ← HEB.out] at hP3
      have HP3 := Lib.hid (HP.out.trans (hP3.behind HKA.out))
      clear hP3
      go_wp2_with fail
      go_roundw
      case rel => exact ⟨k + 1, A3, c3, by omega, by go_num, HP3.out⟩
      case measure => (first | (simp [RowKit.intOf]; done) | (simp [RowKit.intOf]; omega))
    · have hkn : k = n := by omega
      subst hkn
      have hP := HP.out
      rw [List.take_of_length_le (by rw [HE.out.len]; exact Nat.le_refl _)] at hP
      have HP2 := Lib.hid hP
      clear hP
      go_wp2_with fail
      go_end0
      exact ⟨rfl, A1, c1, HP2.out⟩
end Go.Proofs.YthfoleapdmpdfaaDoor
