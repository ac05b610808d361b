/- Contracts of the buffer's Put methods for numbers of a fixed width. Conditions as in the text of the buffer. -/
import Derived.Test.YtmdmccjmmljbkaaGreatBuf
import Derived.Test.YtmdmccjmmljbkaaGreatLe
import Derived.Deep.RegionWith
namespace Go.Proofs.YtmdmccjmmljbkaaGreat
open Go.RowKit
theorem Rd.whole {w : World} {g : Nat} {t : TypeId} {cs : Array Value} {xs : List Value} {n : Nat} (h : Whole w g t cs) (hx : cs.toList = xs) (hn : xs.length = n) : Rd w 1 (some ⟨g, 0, none⟩) n xs :=
  ⟨by omega, fun _ => ⟨_, rfl, h.lt, by subst hx; exact World.news_of_block h⟩⟩
theorem puts_full {cs : Array Value} {vs : List Value} (h : vs.length = cs.size) : (puts cs 0 vs).toList = vs := by
  rw [puts_list cs 0 vs (by omega)]
  simp; omega
/-- The parts of a buffer's own append: what the law asks. -/
theorem put_asks {w0 w1 : World} {base bb : Nat} {A : Option Addr} {c : Nat} {l : List UInt8} (hB : BufAt w0 base bb A c l) (h0 : Keeps (fun _ => False) w0 w1) (hn : l.length < 70368744177664) :
    l.length + 16 ≤ maxLen ∧ (l.length + 16) * 1 ≤ 140737488355328 ∧ base ≤ w1.heap.size := by
  have := hB.blk.lt
  have := hB.lo
  have := h0.size
  refine ⟨by simp only [maxLen]; omega, by omega, by omega⟩

end Go.Proofs.YtmdmccjmmljbkaaGreat
