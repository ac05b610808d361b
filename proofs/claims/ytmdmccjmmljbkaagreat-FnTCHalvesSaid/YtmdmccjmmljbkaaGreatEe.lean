/- A column encoded into a new buffer, of whatever kind; bytes made a string. Conditions: what the method called is shown to do. -/
import Derived.Test.YtmdmccjmmljbkaaGreatBuf
import Derived.Test.YtmdmccjmmljbkaaGreatMt
import Derived.Test.YtmdmccjmmljbkaaGreatStr
import Derived.Test.YtmdmccjmmljbkaaGreatChecked
namespace Go.Proofs.YtmdmccjmmljbkaaGreat
open Go.RowKit Go.Lib
set_option linter.unusedVariables false
def EncRes (w : World) (l : List UInt8) (e : Ending) (w' : World) : Prop := ∃ A c, e = .returned (.slice A l.length c) ∧ w'.ownsRow w.heap.size 5 1 (.slice A l.length c) l.length (Lib.byteCells l) ∧ Keeps (fun _ => False) w w'
/-- A column of whatever kind, encoded into a new buffer. -/
def bufW (w : World) : World := w.alloc (.cells #[.slice none 0 0] 47)
theorem own_low {w : World} {b b' : Nat} {e : TypeId} {size n : Nat} {v : Value} {xs : List Value} (h : w.ownsRow b e size v n xs) (hb : b' ≤ b) : w.ownsRow b' e size v n xs := by
  refine ⟨h.1, ?_⟩
  rcases h.2 with hn | ⟨g', cap, cur, rfl, hlo, rest⟩
  · exact .inl hn
  · exact .inr ⟨g', cap, cur, rfl, Nat.le_trans hb hlo, rest⟩
theorem method_self {P : Program} {fuel : Nat} {t : TypeId} {fs : Array Field} {i : TypeInfo} {m : _} {name : String} {f : FuncId} {w : World} {v : Value} (hi : P.info? t = some i) (hm : i.methods.find? (·.name == name) = some m) (hp : m.path = #[]) (hf : m.func = some (f, false))
    (hu : P.underlying t = some (.struct fs)) : (method (fuel + 1) t v name).run P w = .ok (f, v) w := by
  unfold method
  simp only [Sem.run_bind, run_typeInfo w hi, Result.andThen_ok, hm, hp, hf, follow, Sem.run_pure, receiverAt, run_underlying hu, Place.get, Array.isEmpty_empty, if_true, List.toList_toArray]
set_option maxRecDepth 100000 in
set_option maxHeartbeats 2000000 in
theorem encodedE (w : World) (T : TypeId) (p recv : Value) (f : FuncId) (l : List UInt8) (hf : ∀ args w, (callFunc f args).run Tryz.prog w = .ok (.enter f args) w) (hme : (method 347 T p "EncodeColumn").run Tryz.prog (bufW w) = .ok (f, recv) (bufW w))
    (hE : Calls Tryz.prog f #[recv, .pointer (some ⟨w.heap.size, 0, none⟩)] (bufW w) fun e w' => ∃ A' c', e = .returned (.tuple #[]) ∧ Put (bufW w) w' w.heap.size w.heap.size none A' c' l) :
    Calls Tryz.prog 8 #[.func (.method "EncodeColumn") #[.iface T p] #[]] w fun e w' => EncRes w l e w' := by
  have K1 := (Keeps.refl (fun _ => False) w).alloc (.cells #[.slice none 0 0] 47)
  have HE := Lib.hid hE
  have HK := Lib.hid K1
  unfold bufW at hme HE
  clear hE K1
  go_enter Tryz.func8, Tryz.ntmps8
  go_wp2_with fail
  refine HE.out.mono ?_
  rintro e w2 ⟨A2, c2, rfl, hP⟩
  have hb := hP.at'
  have hc1 : w2.cell? ⟨w.heap.size, 0, none⟩ = some (.slice A2 l.length c2) := hb.blk.cell 0
  have HP := Lib.hid hP
  have HOW := Lib.hid hb.own
  clear hP hb
  go_wp2_with fail
  go_ret
  exact ⟨A2, c2, rfl, HOW.out, HK.out.trans HP.out.keeps (fun i hi h => by rcases h with rfl | h; (omega); cases h)⟩
theorem cv_tx {w : World} {A : Option Addr} {n c : Nat} {l : List UInt8} (h : Rd w 1 A n (Lib.byteCells l)) : (convert 25 9 (.slice A n c)).run Tryz.prog w = .ok (.string ⟨l.toArray⟩) w :=
  run_str_rd Tryz.underlying25 Tryz.underlying5 Tryz.underlying9 h
end Go.Proofs.YtmdmccjmmljbkaaGreat
