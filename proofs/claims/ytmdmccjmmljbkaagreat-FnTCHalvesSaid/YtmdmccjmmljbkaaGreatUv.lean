/- Contracts of varints, strings and wide numbers put into a buffer. Conditions as in the text of the buffer. -/
import Derived.Test.YtmdmccjmmljbkaaGreatPut
import Derived.Lib.AppendStr
namespace Go.Proofs.YtmdmccjmmljbkaaGreat
open Go.RowKit
theorem run_slice_arr {P : Program} {t e : TypeId} {n m : Nat} {i : TypeInfo} (ht : P.underlying t = some (.array n e)) (hi : P.info? e = some i) (hm : m ≤ n) (a : Addr) (w : World) :
    (Instr.sliceAt t (.pointer (some a)) none (some (.int .i64 m)) none).run P w = .ok (.slice (some a) m n) w := by
  simp [Instr.sliceAt, Instr.sureAddr, run_underlying ht, Instr.sliceBounds, run_sliceBound, sizeOf, typeInfo, hi, hm, Addr.add]
theorem puts_snoc (vs : List Value) (v : Value) : ∀ (cs : Array Value) (o : Nat), puts cs o (vs ++ [v]) = (puts cs o vs).setIfInBounds (o + vs.length) v := by
  induction vs with
  | nil => intro cs o; rfl
  | cons u vs ih => intro cs o; simp only [List.cons_append, puts, List.length_cons]; rw [ih, show o + 1 + vs.length = o + (vs.length + 1) by omega]
theorem byteCells_snoc (pre : List UInt8) {a : Nat} (h : a < 256) : Lib.byteCells (pre ++ [a.toUInt8]) = Lib.byteCells pre ++ [Value.int .u8 (a : Int)] := Lib.byteCells_snoc pre h

end Go.Proofs.YtmdmccjmmljbkaaGreat
