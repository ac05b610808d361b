/- Types with parameters: With, Sub of the package. Conditions: at most 100 parameters, texts far below the machine's sizes. -/
import Derived.Test.YtpbnhhfpbadhjaaGreatMem
import Derived.Test.YtpbnhhfpbadhjaaGreatShelf
import Derived.LoopTactic
import Derived.Laws.Concat
import Derived.Lib.Join
namespace Go.Proofs.YtpbnhhfpbadhjaaGreat
open Go.RowKit Go.Lib
set_option linter.unusedVariables false

/-- A row of strings at the head of block g. -/
def SRow (w : World) (g : Nat) (xs : List ByteArray) : Prop := g < w.heap.size ∧ ∀ j x, xs[j]? = some x → w.cell? ⟨g, j, none⟩ = some (.string x)
theorem SRow.keeps {w w' : World} {g : Nat} {xs : List ByteArray} {S : Nat → Prop} (h : SRow w g xs) (hk : Keeps S w w') (hS : ¬ S g) : SRow w' g xs :=
  ⟨Nat.lt_of_lt_of_le h.1 hk.size, fun j x hx => (hk.cell h.1 hS).trans (h.2 j x hx)⟩
theorem SRow.below {w w' : World} {g : Nat} {xs : List ByteArray} (h : SRow w g xs) (hb : Below w.heap.size w w') : SRow w' g xs := h.keeps (Keeps.of_below hb (fun _ => False)) (fun h => h)
theorem SRow.own {w : World} {base n c : Nat} {e : TypeId} {A : Option Addr} {xs : List ByteArray} (h : w.ownsRow base e 1 (.slice A n c) n (xs.map Value.string)) (hn : 0 < n) : ∃ g, A = some ⟨g, 0, none⟩ ∧ base ≤ g ∧ SRow w g xs ∧ n ≤ c := by
  obtain ⟨g, cap, hv, hb, hlt⟩ := h.form hn
  have hA : A = some ⟨g, 0, none⟩ := by injection hv
  subst hA
  have hcap : n ≤ c := by
    rcases h.2 with ⟨h0, _⟩ | ⟨g', cap', cur, h0, _, _, hnc, _⟩
    · cases h0
    · injection h0 with _ _ h3
      subst h3
      exact hnc
  refine ⟨g, rfl, hb, ⟨hlt, fun j x hx => ?_⟩, hcap⟩
  have := h.cells (g := g) rfl j (.string x) (by simp [hx])
  rwa [add_lit', Nat.zero_add] at this
theorem SRow.whole {w : World} {g : Nat} {t : TypeId} {cs : Array Value} {xs : List ByteArray} (h : Whole w g t cs) (hx : ∀ (j : Nat) (x : ByteArray), xs[j]? = some x → cs[j]? = some (Value.string x)) : SRow w g xs :=
  ⟨h.lt, fun j x hj => (h.cell j).trans (hx j x hj)⟩

theorem ba_ext {a b : ByteArray} (h : a.data.toList = b.data.toList) : a = b := by
  obtain ⟨⟨x⟩⟩ := a
  obtain ⟨⟨y⟩⟩ := b
  simp at h
  rw [h]
theorem ba_app (a b : ByteArray) : (a ++ b).data.toList = a.data.toList ++ b.data.toList := by simp
theorem ba_size (a : ByteArray) : a.size = a.data.toList.length := by simp

theorem join_snoc (l : List (List UInt8)) (y sep : List UInt8) (h : l ≠ []) : Lib.join (l ++ [y]) sep = Lib.join l sep ++ sep ++ y := by
  cases l with
  | nil => exact absurd rfl h
  | cons x r =>
    rw [List.cons_append, Lib.join_cons, Lib.join_cons]
    simp [Lib.joinTail, List.append_assoc]
theorem lens_le (l : List (List UInt8)) (B : Nat) (h : ∀ x ∈ l, x.length ≤ B) : Lib.lens l ≤ l.length * B := by
  induction l with
  | nil => simp [Lib.lens]
  | cons x r ih =>
    have h1 := ih (fun y hy => h y (List.mem_cons_of_mem _ hy))
    have h2 := h x List.mem_cons_self
    simp only [Lib.lens, List.map_cons, List.sum_cons, List.length_cons] at h1 ⊢
    rw [Nat.succ_mul]
    omega
theorem join_len (l : List (List UInt8)) (sep : List UInt8) (B : Nat) (h : ∀ x ∈ l, x.length ≤ B) : (Lib.join l sep).length ≤ l.length * (B + sep.length) := by
  cases l with
  | nil => simp [Lib.join_nil]
  | cons x r =>
    rw [Lib.join_cons, List.length_append, Lib.joinTail_length, List.length_cons]
    have h1 := lens_le r B (fun y hy => h y (List.mem_cons_of_mem _ hy))
    have h2 := h x List.mem_cons_self
    rw [Nat.succ_mul, Nat.mul_add, Nat.mul_comm sep.length]
    omega

/-- A type with its parameters in parentheses. -/
def ctS (t : ByteArray) (xs : List ByteArray) : ByteArray := ⟨(t.data.toList ++ (40 : UInt8) :: (Lib.join (xs.map (fun x : ByteArray => x.data.toList)) [44, 32] ++ [41])).toArray⟩
def ctAcc (t : ByteArray) (xs : List ByteArray) (k : Nat) : ByteArray := ⟨(t.data.toList ++ (40 : UInt8) :: Lib.join ((xs.take k).map (fun x : ByteArray => x.data.toList)) [44, 32]).toArray⟩
theorem acc_zero (t : ByteArray) (xs : List ByteArray) : t ++ ⟨#[40]⟩ = ctAcc t xs 0 := ba_ext (by rw [ba_app]; simp [ctAcc, Lib.join_nil])
theorem acc_first {t x : ByteArray} {xs : List ByteArray} (h : xs[0]? = some x) : ctAcc t xs 0 ++ x = ctAcc t xs 1 := ba_ext (by
  rw [ba_app]
  have e : xs.take 1 = [x] := by rw [List.take_one, List.head?_eq_getElem?, h]; rfl
  simp [ctAcc, e, Lib.join_nil, Lib.join_one])
theorem acc_next {t x : ByteArray} {xs : List ByteArray} {k : Nat} (hk : 0 < k) (h : xs[k]? = some x) : ctAcc t xs k ++ ⟨#[44, 32]⟩ ++ x = ctAcc t xs (k + 1) := ba_ext (by
  rw [ba_app, ba_app]
  have hl : k < xs.length := (List.getElem?_eq_some_iff.1 h).1
  have e : xs.take (k + 1) = xs.take k ++ [x] := by rw [List.take_add_one, h]; rfl
  have hne : (xs.take k).map (fun x : ByteArray => x.data.toList) ≠ [] := by
    intro h0
    have := congrArg List.length h0
    rw [List.length_map, List.length_take, List.length_nil] at this
    omega
  simp only [ctAcc, e, List.map_append, List.map_cons, List.map_nil]
  rw [join_snoc _ _ _ hne]
  simp [List.append_assoc])
theorem acc_last (t : ByteArray) (xs : List ByteArray) : ctAcc t xs xs.length ++ ⟨#[41]⟩ = ctS t xs := ba_ext (by rw [ba_app]; simp [ctAcc, ctS])
theorem acc_size (t : ByteArray) (xs : List ByteArray) (k : Nat) (ht : t.size ≤ 100000) (hn : xs.length ≤ 100) (hx : ∀ x ∈ xs, x.size ≤ 100000) : (ctAcc t xs k).size ≤ 20000000 := by
  rw [ba_size, ctAcc]
  have h1 := join_len ((xs.take k).map (fun x : ByteArray => x.data.toList)) [44, 32] 100000 (fun y hy => by
    obtain ⟨z, hz, rfl⟩ := List.mem_map.1 hy
    rw [← ba_size]
    exact hx z (List.mem_of_mem_take hz))
  have h2 : ((xs.take k).map (fun x : ByteArray => x.data.toList)).length ≤ 100 := by rw [List.length_map, List.length_take]; omega
  have h3 : ((xs.take k).map (fun x : ByteArray => x.data.toList)).length * (100000 + [44, 32].length) ≤ 100 * (100000 + [44, 32].length) := Nat.mul_le_mul_right _ h2
  rw [ba_size] at ht
  simp only [List.length_append, List.length_cons, List.length_nil] at h1 h3 ⊢
  omega

set_option maxRecDepth 100000 in
set_option maxHeartbeats 1000000 in
theorem ctWith (w : World) (t : ByteArray) (g c n : Nat) (xs : List ByteArray) (hl : xs.length = n) (hS : SRow w g xs) (hc : n ≤ c) (h0 : 0 < n) (hn : n ≤ 100) (ht : t.size ≤ 100000) (hx : ∀ x ∈ xs, x.size ≤ 100000) :
    Calls Tryz.prog 116 #[.string t, .slice (some ⟨g, 0, none⟩) n c] w fun e w' => e = .returned (.string (ctS t xs)) ∧ Below w.heap.size w w' := by
  have hj : (Lib.join (xs.map (fun x : ByteArray => x.data.toList)) [44, 32]).length ≤ 20000000 := by
    have h1 := join_len (xs.map (fun x : ByteArray => x.data.toList)) [44, 32] 100000 (fun y hy => by
      obtain ⟨z, hz, rfl⟩ := List.mem_map.1 hy
      rw [← ba_size]
      exact hx z hz)
    rw [List.length_map, hl] at h1
    have h3 : n * (100000 + [44, 32].length) ≤ 100 * (100000 + [44, 32].length) := Nat.mul_le_mul_right _ hn
    simp only [List.length_cons, List.length_nil] at h1 h3
    omega
  have HJ := Lib.hid (Tryz.strings_Join g 0 c xs ⟨#[44, 32]⟩ w (fun j x hx => by rw [Nat.zero_add]; exact hS.2 j x hx) hS.1 (by omega) (by omega) (by simp only []; exact Nat.le_trans hj (by omega)))
  rw [hl] at HJ
  have HE := Lib.hid (show t ++ ((⟨#[40]⟩ : ByteArray) ++ ⟨(Lib.join (xs.map (fun x : ByteArray => x.data.toList)) [44, 32]).toArray⟩ ++ ⟨#[41]⟩) = ctS t xs from ba_ext (by rw [ba_app, ba_app, ba_app]; simp [ctS]))
  have hjs : (⟨(Lib.join (xs.map (fun x : ByteArray => x.data.toList)) [44, 32]).toArray⟩ : ByteArray).size ≤ 20000000 := by rw [ba_size]; simpa using hj
  have e0 : decide ((n : Int) = 0) = false := decide_eq_false (by omega)
  clear hl hS hx hj
  go_enter Tryz.func116, Tryz.ntmps116
  go_wp2_with fail
  refine HJ.out.mono ?_
  rintro e w1 ⟨rfl, hb⟩
  generalize (⟨(Lib.join (xs.map (fun x : ByteArray => x.data.toList)) [44, 32]).toArray⟩ : ByteArray) = js at *
  go_wp2_with fail
  go_ret
  exact ⟨congrArg (fun s => Ending.returned (Value.string s)) HE.out, hb⟩

theorem infoStr : (Tryz.prog.info? 9).map (fun i => (i.zero, i.size, i.bytes)) = some (some (.string ⟨#[]⟩), 1, 16) := by kernel_rfl
theorem take_str {xs : List ByteArray} {k : Nat} {x : ByteArray} (h : xs[k]? = some x) : (xs.take k).map Value.string ++ [.string x] = (xs.take (k + 1)).map Value.string := by
  rw [List.take_add_one, h]; simp
theorem one_str (x : ByteArray) : ∀ u ∈ [Value.string x], u.oneCell' = true := by
  intro u hu
  rw [List.mem_singleton.1 hu]
  rfl

theorem Rd.whole {w : World} {g : Nat} {t : TypeId} {cs : Array Value} {xs : List Value} {n : Nat} (h : Whole w g t cs) (hx : cs.toList = xs) (hn : xs.length = n) : Rd w 1 (some ⟨g, 0, none⟩) n xs :=
  ⟨by omega, fun _ => ⟨_, rfl, h.lt, fun j u hu => by rw [add_lit', Nat.zero_add, h.cell j, ← Array.getElem?_toList, hx]; exact hu⟩⟩

set_option maxRecDepth 100000 in
set_option maxHeartbeats 2000000 in
theorem ctSubM (w : World) (t : ByteArray) (g c n : Nat) (xs : List ByteArray) (hl : xs.length = n) (hS : SRow w g xs) (h0 : 0 < n) (hn : n ≤ 100) (ht : t.size ≤ 100000) (hx : ∀ x ∈ xs, x.size ≤ 100000) :
    Calls Tryz.prog 114 #[.string t, .slice (some ⟨g, 0, none⟩) n c] w fun e w' => e = .returned (.string (ctS t xs)) ∧ Keeps (fun _ => False) w w' := by
  obtain ⟨i0, hi0, hz0, hz1, hz2⟩ := info_parts infoStr
  have HS := Lib.hid hS
  have HL := Lib.hid hl
  have HX := Lib.hid hx
  clear hl hS hx
  go_enter Tryz.func114, Tryz.ntmps114
  go_wp2_with fail
  go_loopw [5, 10] (fun v i wr => ∃ (k : Nat) (A : Option Addr) (c : Nat), k ≤ n ∧ i = .int .i64 k ∧ v = .slice A k c ∧ wr.ownsRow w.heap.size 9 1 (.slice A k c) k ((xs.take k).map Value.string) ∧ Keeps (fun _ => False) w wr) (fun _ i _ => n - (RowKit.intOf i).toNat)
  case atStart => exact ⟨0, none, 0, Nat.zero_le _, rfl, rfl, World.ownsRow_nil w w.heap.size 9 1, Keeps.refl _ _⟩
  case round =>
    obtain ⟨k, A, c1, hk, rfl, rfl, hown, hK⟩ := hrel
    by_cases hlt : k < n
    · obtain ⟨x, hxk⟩ : ∃ x, xs[k]? = some x := ⟨_, List.getElem?_eq_getElem (by rw [HL.out]; exact hlt)⟩
      have HT := Lib.hid (take_str hxk)
      have hc := (HS.out.keeps hK (fun h => h)).2 k x hxk
      clear hxk
      have hKa := hK.alloc (.cells #[.string x] 9)
      have howna := own_keeps hown ((Keeps.refl (fun _ => False) wr).alloc (.cells #[.string x] 9)) (fun _ _ h => h)
      have hRd := Rd.whole (Whole.new wr 9 #[.string x]) rfl rfl
      go_wp2_with (first
        | (go_at_call 104; go_in)
        | (at_builtin
           refine wpList_append_rd _ rfl (.tmp 14) (.tmp 17) _ rfl w.heap.size 9 i0 _ 1 16 Tryz.underlying22 hi0 hz0 hz1 hz2 rfl Nat.one_pos A c1 k _ rfl howna (some ⟨wr.heap.size, 0, none⟩) 1 1 [.string x] rfl hRd (one_str x) (by simp only [maxLen]; omega) (by omega) hKa.size ?_
           intro A2 c2 w2 hown2 hg2 hat2
           have hK2 := hKa.grown hg2 (fun i hi => .inr (howna.lt i (by rw [ownBlock_slice]; exact hi)).1)
           rw [HT.out] at hown2))
      go_roundw
      case rel => exact ⟨k + 1, A2, c2, by omega, by go_num, rfl, hown2, hK2⟩
      case measure => (first | (simp [RowKit.intOf]; done) | (simp [RowKit.intOf]; omega))
    · have hkn : k = n := by omega
      subst hkn
      have e : xs.take k = xs := List.take_of_length_le (by rw [HL.out]; exact Nat.le_refl _)
      rw [e] at hown
      have HOW := Lib.hid hown
      clear hown e
      obtain ⟨g2, rfl, hb2, hS2, hc2⟩ := SRow.own HOW.out h0
      have HW := Lib.hid (ctWith wr t g2 c1 k xs HL.out hS2 hc2 h0 hn ht HX.out)
      clear HOW hS2
      go_wp2_with fail
      refine HW.out.mono ?_
      rintro e w3 ⟨rfl, hb⟩
      go_wp2_with fail
      go_ret
      exact ⟨rfl, hK.trans (Keeps.of_below hb (fun _ => False)) (fun _ _ h => h)⟩

end Go.Proofs.YtpbnhhfpbadhjaaGreat
