/- Methods: of a value, through a pointer, of an interface that a struct embeds. No conditions but those that each theorem names. -/
import Derived.Test.YtmdmccjmmljbkaaGreatMem
import Derived.Laws.Rows
import Derived.IntWalk
namespace Go.Proofs.YtmdmccjmmljbkaaGreat
open Go.RowKit
set_option linter.unusedVariables false
theorem wrapNil (t u : TypeId) (a : Addr) (s : ByteArray) (n : String) : Builtin.ssaWrapNilChk_ #[t] u #[.pointer (some a), .string s, strVal n] = pure (.pointer (some a)) := rfl
theorem wrapNil' (t u : TypeId) (a : Addr) (m n : String) : Builtin.ssaWrapNilChk_ #[t] u #[.pointer (some a), strVal m, strVal n] = pure (.pointer (some a)) := rfl
theorem asAddr_some (a : Addr) : asAddr (.pointer (some a)) = pure a := rfl
/-- A method of a value's own type called through a pointer: the value is read where the pointer leads. -/
theorem method_val {P : Program} {fuel : Nat} {t elem : TypeId} {i : TypeInfo} {m : _} {name : String} {f : FuncId} {a : Addr} {w : World} {v : Value} (hi : P.info? t = some i) (hm : i.methods.find? (·.name == name) = some m) (hp : m.path = #[]) (hf : m.func = some (f, false))
    (hu : P.underlying t = some (.pointer elem)) (hl : (loadVar elem a).run P w = .ok v w) : (method (fuel + 1) t (.pointer (some a)) name).run P w = .ok (f, v) w := by
  unfold method
  simp only [Sem.run_bind, run_typeInfo w hi, Result.andThen_ok, hm, hp, hf, follow, Sem.run_pure, receiverAt, run_underlying hu, Place.get, wrapNil', asAddr_some, hl, Array.isEmpty_empty, if_true, List.toList_toArray]
theorem method_row {P : Program} {t : TypeId} {name : String} {f : FuncId} {b : Bool} (h : (P.info? t).map (fun i => (i.methods.find? (·.name == name)).map (fun m => (m.path.toList.length, m.func))) = some (some (0, some (f, b)))) :
    ∃ i m, P.info? t = some i ∧ i.methods.find? (·.name == name) = some m ∧ m.path = #[] ∧ m.func = some (f, b) := by
  rw [Option.map_eq_some_iff] at h
  obtain ⟨i, h1, h2⟩ := h
  rw [Option.map_eq_some_iff] at h2
  obtain ⟨m, h3, h4⟩ := h2
  injection h4 with h4 h5
  exact ⟨i, m, h1, h3, by simpa using h4, h5⟩
theorem method_ptr {P : Program} {fuel : Nat} {t elem : TypeId} {i : TypeInfo} {m : _} {name : String} {f : FuncId} {a : Addr} {w : World} (hi : P.info? t = some i) (hm : i.methods.find? (·.name == name) = some m) (hp : m.path = #[]) (hf : m.func = some (f, true))
    (hu : P.underlying t = some (.pointer elem)) : (method (fuel + 1) t (.pointer (some a)) name).run P w = .ok (f, .pointer (some a)) w := by
  unfold method
  simp only [Sem.run_bind, run_typeInfo w hi, Result.andThen_ok, hm, hp, hf, follow, Sem.run_pure, receiverAt, run_underlying hu, Place.get, Array.isEmpty_empty, if_true, List.toList_toArray]
/-- A method of an interface that a struct embeds as its field 0. -/
theorem method_emb {P : Program} {fuel : Nat} {t u : TypeId} {name : String} {w : World} {cs : Array Value} {t' : TypeId} {v' : Value} {fs : Array Field} {fd : Field}
    (h : (P.info? t).map (fun i => (i.methods.find? (·.name == name)).map (fun m => (m.path.toList.map (fun s => (s.struct, s.index, s.deref)), m.func))) = some (some ([(u, 0, false)], none)))
    (hu : P.underlying u = some (.struct fs)) (hf : fs[0]? = some fd) (ho : fd.offset = 0) (hd : ∀ w : World, (isAgg fd.type).run P w = .ok false w) (hc : cs[0]? = some (.iface t' v')) :
    (method (fuel + 1) t (.agg cs) name).run P w = (method fuel t' v' name).run P w := by
  rw [Option.map_eq_some_iff] at h
  obtain ⟨i, h1, h2⟩ := h
  rw [Option.map_eq_some_iff] at h2
  obtain ⟨m, h3, h4⟩ := h2
  injection h4 with h4 h5
  obtain ⟨s, r, hp, hs⟩ : ∃ s r, m.path.toList = s :: r ∧ (s.struct, s.index, s.deref) = (u, 0, false) ∧ r = [] := by
    match hl : m.path.toList with
    | [] => rw [hl] at h4; simp at h4
    | s :: r =>
      rw [hl] at h4
      simp only [List.map_cons, List.cons.injEq, List.map_eq_nil_iff] at h4
      exact ⟨s, r, rfl, h4.1, h4.2⟩
  obtain ⟨hs, rfl⟩ := hs
  injection hs with hs1 hs
  injection hs with hs2 hs3
  conv => lhs; unfold method
  simp only [Sem.run_bind, run_typeInfo w h1, Result.andThen_ok, h3, hp, follow, hs1, hs2, hs3, run_underlying hu, hf, h5, part, hd, ho, hc, Sem.run_pure, Place.get, Bool.false_eq_true, if_false]
end Go.Proofs.YtmdmccjmmljbkaaGreat
