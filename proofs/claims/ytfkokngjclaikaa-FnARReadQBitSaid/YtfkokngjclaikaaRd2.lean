/- Contracts of what a reader reads: numbers of a fixed width, or an error. Conditions as in the text of the reader. -/
import Derived.Test.YtfkokngjclaikaaRdr
import Derived.Test.YtfkokngjclaikaaGet
import Derived.Deep.RegionWith
namespace Go.Proofs.Ytfkokngjclaikaa
open Go.RowKit

/-- Any error of the package: it is not nil. -/
def IsErr (v : Value) : Prop := ∃ a, v = .iface 88 (.pointer (some a))

theorem rdr_end {w : World} {base rb bb : Nat} {A : Option Addr} {c : Nat} {d : List UInt8} {C : Option Addr} {n k : Nat} {q : List Value} (hR : RdrAt w base rb bb A c d C n k q) (D : Option Nat) :
    RdrGo w (w.setCell ⟨rb, 0, none⟩ (.slice none 0 0)) base rb bb D (ob C) [] := by
  have hk : Keeps (fun i => i = rb) w (w.setCell ⟨rb, 0, none⟩ (.slice none 0 0)) := (Keeps.refl (fun i => i = rb) w).setCell (.inl rfl) _
  obtain ⟨f1, f2, f3⟩ := hR.farC
  refine ⟨⟨ob C, ⟨none, 0, C, n, k, q, ⟨hR.rdr.put 0 _, hR.blk.keeps hk (Ne.symm f3), own_keeps hR.own hk ?_, Rd.none', Nat.le_refl _, hR.lo1, hR.lo2, fun i hi => by cases hi⟩, .inr rfl, rfl⟩, .inl rfl⟩, hk.mono fun _ _ h => .inl h⟩
  rw [ownBlock_slice]
  rintro i hi rfl
  exact f1 hi

set_option maxHeartbeats 400000 in
theorem readFull_err (w : World) (base rb bb : Nat) (D R : Option Nat) (d : List UInt8) (m : Nat) (hR : RdrOn w base rb bb D R d) (hm : d.length < m) :
    Calls Try.prog 31 #[.pointer (some ⟨rb, 0, none⟩), .int .i64 m] w fun e w' => ∃ v, e = .returned v ∧ IsErr v ∧ RdrGo w w' base rb bb D R [] := by
  obtain ⟨A, c, C, n, k, q, hA, hD, rfl⟩ := hR
  have hc0 : w.cell? ⟨rb, 0, none⟩ = some (.slice A d.length c) := hA.rdr.cell 0
  have hf0 : w.frozen? ⟨rb, 0, none⟩ = false := hA.rdr.frozen 0
  have hmi : (d.length : Int) < (m : Int) := by omega
  have hlt := hA.rdr.lt
  go_enter Try.func31, Try.ntmps31
  go_wp2
  go_ret
  refine ⟨_, rfl, ⟨_, rfl⟩, (rdr_end hA D).after ?_⟩
  exact ((Keeps.refl _ _).alloc _).alloc _












end Go.Proofs.Ytfkokngjclaikaa
