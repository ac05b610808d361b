/- encodes: a column of arrays of strings made ready and encoded. -/
import Derived.Test.YtfkokngjclaikaaEa
import Derived.Defers
import Derived.Recover
namespace Go.Proofs.Ytfkokngjclaikaa
open Go.RowKit Go.Lib
set_option linter.unusedVariables false
theorem caughtIdle (p : Addr) (w : World) :
    CallsD Try.prog 12 #[.pointer (some p)] .returning w fun e u' w' => e = .returned (.tuple #[]) ∧ u' = .returning ∧ w = w' := by
  refine callsD_of_wpS Try.func12 rfl fun c₀ cs hu => ?_
  apply wpS_seq
  apply wpS_region
  simp [wpOpsS, go_sem, recoverD, hu, Try.ntmps12, Exit.thenS]
  refine wpS_cond (t := false) (by simp [Act.eval, Array.replicate]) ?_
  simp only [Bool.false_eq_true, if_false]
  refine wpS_of_wp (wp_skip ?_)
  cases c₀
  simp_all [bodyPostS, results, Try.results12]
theorem results_tc {P : Program} {fn : Func} {t u : Tmp} {ty : TypeId} (h : fn.results = #[.tmp u, .cell t ty]) (tmps : Array Value) (p : Addr) (w : World) (x : Value) (hp : tmps.getD t undef = .pointer (some p)) (hx : (loadVar ty p).run P w = .ok x w) :
    (results fn tmps).run P w = .ok (.tuple #[tmps.getD u undef, x]) w := by
  have hp2 : tmps[t]?.getD undef = .pointer (some p) := by simpa using hp
  simp [results, h, hp2, asAddr, hx]
def EncOk (w : World) (l : List UInt8) (e : Ending) (w' : World) : Prop := ∃ A c b, e = .returned (.tuple #[.slice A l.length c, .bool true]) ∧ w.heap.size ≤ b ∧ w'.ownsRow b 5 1 (.slice A l.length c) l.length (Lib.byteCells l) ∧ Keeps (fun _ => False) w w'
end Go.Proofs.Ytfkokngjclaikaa
