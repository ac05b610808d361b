/- laws.arVectors: vectors of finite numbers. Conditions: lengths that an argument can have. -/
import Derived.Test.YtfkokngjclaikaaVh
import Derived.Test.YtfkokngjclaikaaFn
import Derived.Deep.Cut
namespace Go.Proofs.Ytfkokngjclaikaa
open Go.RowKit Go.Lib
set_option linter.unusedVariables false
/-- Numbers of 32 bits by a function, as cells. -/
def ucells (n : Nat) (f : Nat → Nat) : Array Value := ((List.range n).map fun i => Value.int .u32 (f i : Int)).toArray
theorem ucells_size (T : Nat) (f : Nat → Nat) : (ucells T f).size = T := by simp [ucells]
theorem ucells_get {T : Nat} {f : Nat → Nat} {i : Nat} (h : i < T) : (ucells T f)[i]? = some (.int .u32 (f i : Int)) := by
  simp [ucells, List.getElem?_range h]
theorem ucells_put {T : Nat} {f : Nat → Nat} (i x : Nat) : (ucells T f).setIfInBounds i (.int .u32 (x : Int)) = ucells T (fun j => if j = i then x else f j) := by
  apply Array.ext_getElem?
  intro j
  rw [Array.getElem?_setIfInBounds]
  by_cases hj : j < T
  · rw [ucells_get hj, ucells_get hj, ucells_size]
    by_cases h : i = j
    · subst h; simp [hj]
    · rw [if_neg h, if_neg (by omega)]
  · have h1 : ∀ f, (ucells T f)[j]? = none := fun f => Array.getElem?_eq_none (by rw [ucells_size]; omega)
    rw [h1, h1, ucells_size]
    by_cases h : i = j
    · subst h; simp [hj]
    · rw [if_neg h]
theorem ucells_congr {T : Nat} {f g : Nat → Nat} (h : ∀ i, i < T → f i = g i) : ucells T f = ucells T g := by
  unfold ucells
  congr 1
  refine List.map_congr_left fun i hi => ?_
  rw [h i (List.mem_range.1 hi)]
theorem made_u32 (T : Nat) : madeCells (Value.int .u32 0).cells (T * 1) = ucells T (fun _ => 0) := by
  apply Array.ext_getElem?
  intro i
  rw [Nat.mul_one]
  by_cases h : i < T
  · rw [ucells_get h]
    simp [madeCells, Value.cells, h, Nat.mod_one]
  · rw [Array.getElem?_eq_none (by rw [size_madeCells]; omega), Array.getElem?_eq_none (by rw [ucells_size]; omega)]
theorem ucells_list {V : List Nat} {n : Nat} (h : V.length = n) : (ucells n (fun i => V.getD i 0)).toList = nv V := by
  have h2 := range_getD h (fun x => x)
  simp only [List.map_id'] at h2
  show (List.range n).map _ = nv V
  rw [nv]
  conv => rhs; rw [← h2]
  rw [List.map_map]; rfl
/-- Vectors, a block each. -/
structure VecsAt (w : World) (base : Nat) (T : Option Addr) (M ct n : Nat) (bs : List Nat) (VL : List (List Nat)) : Prop where
  outer : w.ownsRow base 35 1 (.slice T M ct) M (bs.map fun b => Value.slice (some ⟨b, 0, none⟩) n n)
  lb : bs.length = M
  lv : VL.length = M
  inc : bs.Pairwise (· < ·)
  rows : ∀ (i b : Nat) (V : List Nat), bs[i]? = some b → VL[i]? = some V → base ≤ b ∧ V.length = n ∧ Whole w b 32 (ucells n (fun i => V.getD i 0))
theorem VecsAt.new {w w' : World} {base : Nat} {T : Option Addr} {M ct n : Nat} {bs : List Nat} {VL : List (List Nat)} (h : VecsAt w base T M ct n bs VL) (k : Keeps (fun i => i < base) w w') : VecsAt w' base T M ct n bs VL :=
  ⟨own_keeps h.outer k (fun i hi e => by rw [ownBlock_slice] at hi; have := (h.outer.lt i (by rw [ownBlock_slice]; exact hi)).1; omega), h.lb, h.lv, h.inc, fun i b V h1 h2 => by
    obtain ⟨h3, h4, h5⟩ := h.rows i b V h1 h2
    exact ⟨h3, h4, h5.keeps k (by omega)⟩⟩
theorem VecsAt.nums {w : World} {base : Nat} {T : Option Addr} {M ct n : Nat} {bs : List Nat} {VL : List (List Nat)} (h : VecsAt w base T M ct n bs VL) : NumsOf w T VL := by
  intro i xs hi
  rw [List.getElem?_map] at hi
  obtain ⟨V, hV, rfl⟩ := Option.map_eq_some_iff.1 hi
  have hiM : i < M := by rw [← h.lv]; exact (List.getElem?_eq_some_iff.1 hV).1
  obtain ⟨b, hb⟩ : ∃ b, bs[i]? = some b := ⟨_, List.getElem?_eq_getElem (by rw [h.lb]; exact hiM)⟩
  obtain ⟨h1, h2, h3⟩ := h.rows i b V hb hV
  obtain ⟨ad, u, e, hbl, hu, hc⟩ := (Rd.own h.outer).at' hiM
  rw [List.getElem?_map, hb] at hu
  injection hu with hu
  subst hu
  have hnl : (nv V).length = n := by rw [nv, List.length_map, h2]
  refine ⟨ad, some ⟨b, 0, none⟩, n, e, hbl, by rw [hnl]; exact hc, by rw [hnl, Nat.mul_one], fun _ => ⟨_, rfl, h3.lt, fun j u hu => ?_⟩⟩
  rw [add_lit', Nat.zero_add, h3.cell j, ← Array.getElem?_toList, ucells_list h2]
  exact hu
theorem VecsAt.snoc {w w' : World} {base : Nat} {T T' : Option Addr} {M ct ct' n b : Nat} {bs : List Nat} {VL : List (List Nat)} {V : List Nat} (h : VecsAt w base T M ct n bs VL) (hb : base ≤ b) (hV : V.length = n) (hW : Whole w b 32 (ucells n (fun i => V.getD i 0))) (hlt : ∀ x ∈ bs, x < b)
    (hg : w.grownBy w' (ob T)) (ho : w'.ownsRow base 35 1 (.slice T' (M + 1) ct') (M + 1) ((bs.map fun b => Value.slice (some ⟨b, 0, none⟩) n n) ++ [.slice (some ⟨b, 0, none⟩) n n])) : VecsAt w' base T' (M + 1) ct' n (bs ++ [b]) (VL ++ [V]) := by
  have Kp : Keeps (fun i => ob T = some i) w w' := (Keeps.refl _ w).grown hg (fun k hk => .inl hk)
  refine ⟨by rw [List.map_append]; exact ho, by simp [h.lb], by simp [h.lv], ?_, fun i b' V' h1 h2 => ?_⟩
  · rw [List.pairwise_append]
    exact ⟨h.inc, List.pairwise_singleton _ _, fun x hx y hy => by rw [List.mem_singleton.1 hy]; exact hlt x hx⟩
  · have hfar : ∀ {x : Nat} {V : List Nat}, Whole w x 32 (ucells n (fun i => V.getD i 0)) → Whole w' x 32 (ucells n (fun i => V.getD i 0)) := fun {x V} hx => hx.keeps Kp (by
      have := own_far h.outer hx (by decide)
      rw [ownBlock_slice] at this
      exact this)
    rcases Nat.lt_or_ge i M with hi | hi
    · rw [List.getElem?_append_left (by rw [h.lb]; exact hi)] at h1
      rw [List.getElem?_append_left (by rw [h.lv]; exact hi)] at h2
      obtain ⟨h3, h4, h5⟩ := h.rows i b' V' h1 h2
      exact ⟨h3, h4, hfar h5⟩
    · rw [List.getElem?_append_right (by rw [h.lb]; exact hi)] at h1
      rw [List.getElem?_append_right (by rw [h.lv]; exact hi)] at h2
      have h0 : i - bs.length = 0 := by
        have := (List.getElem?_eq_some_iff.1 h1).1
        simp at this
        omega
      rw [h.lb] at h0
      rw [h.lb, h0] at h1
      rw [h.lv, h0] at h2
      injection h1 with h1
      injection h2 with h2
      subst h1 h2
      exact ⟨hb, hV, hfar hW⟩
theorem VecsAt.lt {w : World} {base : Nat} {T : Option Addr} {M ct n : Nat} {bs : List Nat} {VL : List (List Nat)} (h : VecsAt w base T M ct n bs VL) : ∀ x ∈ bs, x < w.heap.size := by
  intro x hx
  obtain ⟨i, hi⟩ := List.getElem?_of_mem hx
  have hiM : i < M := by rw [← h.lb]; exact (List.getElem?_eq_some_iff.1 hi).1
  obtain ⟨V, hV⟩ : ∃ V, VL[i]? = some V := ⟨_, List.getElem?_eq_getElem (by rw [h.lv]; exact hiM)⟩
  exact (h.rows i x V hi hV).2.2.lt
theorem VecsAt.new0 {w w' : World} {base : Nat} {T : Option Addr} {M ct n : Nat} {bs : List Nat} {VL : List (List Nat)} (h : VecsAt w base T M ct n bs VL) (k : Keeps (fun _ => False) w w') : VecsAt w' base T M ct n bs VL := h.new (k.mono (fun _ _ h => h.elim))
theorem list_getD {n : Nat} (f : Nat → Nat) {i : Nat} (h : i < n) : ((List.range n).map f).getD i 0 = f i := by
  simp [List.getElem?_range h]
/-- A number made finite. -/
def fixx (v : Nat) : Nat := if 254 ≤ v / 8388608 % 256 then v &&& 2155872255 else v
def fixv (n : Nat) (X : List Nat) : List Nat := (List.range n).map fun k => fixx (X.getD k 0)
def lastv (n : Nat) : List Nat := (List.range n).map fun k => if k = 0 then 1069547520 else 0
theorem fixx_fin {v : Nat} (h : v < 4294967296) : Fin32 (fixx v) := by
  unfold fixx
  split
  · refine ⟨Nat.and_lt_two_pow v (n := 32) (by decide), ?_⟩
    have h1 : (v &&& 2155872255) / 8388608 % 256 = 0 := by
      have e1 : (v &&& 2155872255) / 8388608 = (v &&& 2155872255) >>> 23 := by rw [Nat.shiftRight_eq_div_pow]
      rw [e1, Nat.shiftRight_and_distrib, show 2155872255 >>> 23 = 256 by decide, show (256 : Nat) = 2 ^ 8 by decide, Nat.and_mod_two_pow, Nat.mod_self, Nat.and_zero]
    omega
  · exact ⟨h, by omega⟩
theorem fixx_zero : fixx 0 = 0 := by decide
theorem vec_ok {n : Nat} (hn : 0 < n) (LL : List (List Nat)) (hx : ∀ X ∈ LL, ∀ x ∈ X, x < 4294967296) : ∀ V ∈ (LL.take 8).map (fixv n) ++ [lastv n], V.length = n ∧ ∀ x ∈ V, Fin32 x := by
  intro V hV
  rcases List.mem_append.1 hV with h | h
  · obtain ⟨X, hX, rfl⟩ := List.mem_map.1 h
    refine ⟨by simp [fixv], fun x hm => ?_⟩
    obtain ⟨k, _, rfl⟩ := List.mem_map.1 hm
    refine fixx_fin ?_
    rcases hk : X[k]? with _ | y
    · simp [List.getD, hk]
    · simp only [List.getD, hk, Option.getD_some]
      exact hx X (List.mem_of_mem_take hX) y (List.mem_of_getElem? hk)
  · rw [List.mem_singleton.1 h]
    refine ⟨by simp [lastv], fun x hm => ?_⟩
    obtain ⟨k, _, rfl⟩ := List.mem_map.1 hm
    split
    · exact ⟨by omega, by decide⟩
    · exact ⟨by omega, by decide⟩
set_option maxRecDepth 100000 in
set_option maxHeartbeats 8000000 in
theorem arVectors (w : World) (a b e n : Nat) (ha : a < 256) (hb : b < 256) (he : a % 3 = e) (hn : 1 + b % 20 = n) (A : Option Addr) (nl cl : Nat) (LL : List (List Nat)) (hl : LL.length = nl) (hR : RowsIn w A LL) (hnl : nl ≤ 9223372036854775807) (hi : ∀ X ∈ LL, X.length ≤ 9223372036854775807) (hx : ∀ X ∈ LL, ∀ x ∈ X, x < 4294967296) :
    Calls Try.prog 5 #[.int .u8 (a : Int), .int .u8 (b : Int), .slice A nl cl] w fun e' w' => ∃ T ct bs, e' = .returned (.tuple #[.string (eName e), .int .i64 (n : Int), .slice T ((LL.take 8).length + 1) ct]) ∧ VecsAt w' w.heap.size T ((LL.take 8).length + 1) ct n bs ((LL.take 8).map (fixv n) ++ [lastv n]) ∧ Keeps (fun _ => False) w w' := by
  obtain ⟨u0, hu0, hv0, hv1, hv2⟩ := info_parts infoN
  obtain ⟨i0, hi0, hz0, hz1, hz2⟩ := info_parts infoSlN2
  have hn20 : 0 < n ∧ n ≤ 20 := by omega
  obtain ⟨hn0, hn20⟩ := hn20
  have he3 : e < 3 := by omega
  have hmk : ∀ w0 : World, (Instr.makeSlice 35 (.int .i64 (n : Int)) (.int .i64 (n : Int))).run Try.prog w0 = .ok (.slice (some ⟨w0.heap.size, 0, none⟩) n n) (w0.alloc (.cells (ucells n (fun _ => 0)) 32)) := fun w0 => by
    have h := run_make (P := Try.prog) w0 35 32 u0 (.int .u32 0) Try.underlying35 hu0 hv0 .i64 .i64 (n : Int) (n : Int) (by omega) (Int.le_refl _) (by rw [hv2]; omega) (by omega)
    rw [hv1, Int.toNat_natCast, made_u32] at h
    exact h
  have h3 : (a : Int) % 3 = (e : Int) := by omega
  have h4 : (1 : Int) + (b : Int) % 20 = (n : Int) := by omega
  have hnm : (#[.string ⟨#[66, 70, 108, 111, 97, 116, 49, 54]⟩, .string ⟨#[70, 108, 111, 97, 116, 51, 50]⟩, .string ⟨#[70, 108, 111, 97, 116, 54, 52]⟩] : Array Value)[e]? = some (.string (eName e)) := by
    have : e = 0 ∨ e = 1 ∨ e = 2 := by omega
    rcases this with h | h | h <;> rw [h] <;> rfl
  have HE := Lib.hid (And.intro hnm (And.intro h3 h4))
  have HL := Lib.hid hl
  have HR := Lib.hid hR
  have HI := Lib.hid hi
  have HX := Lib.hid hx
  clear hl hR hi hx he hn
  go_enter Try.func5, Try.ntmps5
  go_wp2_with fail
  have hls : ∀ h : e < ([.string ⟨#[66, 70, 108, 111, 97, 116, 49, 54]⟩, .string ⟨#[70, 108, 111, 97, 116, 51, 50]⟩, .string ⟨#[70, 108, 111, 97, 116, 54, 52]⟩] : List Value).length, ([.string ⟨#[66, 70, 108, 111, 97, 116, 49, 54]⟩, .string ⟨#[70, 108, 111, 97, 116, 51, 50]⟩, .string ⟨#[70, 108, 111, 97, 116, 54, 52]⟩] : List Value)[e]'h = Value.string (eName e) := fun h => by
    rcases (show e = 0 ∨ e = 1 ∨ e = 2 by omega) with h' | h' | h' <;> subst h' <;> rfl
  rw [hls]
  have HK0 := Lib.hid ((Keeps.refl (fun _ => False) w).alloc (.cells #[.string ⟨#[66, 70, 108, 111, 97, 116, 49, 54]⟩, .string ⟨#[70, 108, 111, 97, 116, 51, 50]⟩, .string ⟨#[70, 108, 111, 97, 116, 54, 52]⟩] 9))
  generalize w.alloc (.cells #[.string ⟨#[66, 70, 108, 111, 97, 116, 49, 54]⟩, .string ⟨#[70, 108, 111, 97, 116, 51, 50]⟩, .string ⟨#[70, 108, 111, 97, 116, 54, 52]⟩] 9) = w0 at *
  clear hnm hls h3 h4 HE
  go_loopw [11, 12] (fun v i wr => ∃ (k : Nat) (T : Option Addr) (ct : Nat) (bs : List Nat), k ≤ nl ∧ k ≤ 8 ∧ v = .slice T k ct ∧ i = .int .i64 k ∧ Hid (VecsAt wr w.heap.size T k ct n bs ((LL.take k).map (fixv n))) ∧ Hid (Keeps (fun _ => False) w wr)) (fun _ i _ => 8 - (RowKit.intOf i).toNat)
  case atStart => exact ⟨0, none, 0, [], Nat.zero_le _, Nat.zero_le _, rfl, rfl, Lib.hid ⟨World.ownsRow_nil _ w.heap.size 35 1, rfl, rfl, List.Pairwise.nil, fun i b V h => by simp at h⟩, HK0⟩
  case round =>
    obtain ⟨k, T, ct, bs, hk, hk8, rfl, rfl, HV, HK⟩ := hrel
    by_cases hlt0 : k < nl
    · by_cases hlt8 : k < 8
      · obtain ⟨X, hX⟩ : ∃ X, LL[k]? = some X := ⟨_, List.getElem?_eq_getElem (by rw [HL.out]; exact hlt0)⟩
        have hXm := List.mem_of_getElem? hX
        have hxl := HI.out X hXm
        have HX2 := Lib.hid (HX.out X hXm)
        have HRX := Lib.hid (HR.out k X hX)
        have HTK := Lib.hid (show (LL.take (k + 1)).map (fixv n) = (LL.take k).map (fixv n) ++ [fixv n X] by rw [List.take_add_one, hX]; simp)
        have HW1 := Lib.hid (Whole.new wr 32 (ucells n (fun _ => 0)))
        have HK1 := Lib.hid ((Keeps.refl (fun _ => False) wr).alloc (.cells (ucells n (fun _ => 0)) 32))
        clear hX hXm
        obtain ⟨xl, hxl2⟩ : ∃ xl, X.length = xl := ⟨_, rfl⟩
        have HXL := Lib.hid hxl2
        rw [hxl2] at hxl
        clear hxl2
        have HWV := Lib.hid (And.intro HV.out HK.out)
        go_wp2_with fail
        generalize hgg : wr.heap.size = g at *
        have HG := Lib.hid hgg
        clear hgg
        generalize wr.alloc (.cells (ucells n (fun _ => 0)) 32) = wo at *
        go_loopw [14] (fun s14 wp => ∃ t : Nat, t ≤ n ∧ t ≤ xl ∧ s14 = .int .i64 t ∧ Hid (Whole wp g 32 (ucells n (fun i => if i < t then fixx (X.getD i 0) else 0))) ∧ Hid (Keeps (fun _ => False) wr wp)) (fun s14 _ => n - (RowKit.intOf s14).toNat)
        case atStart => exact ⟨0, Nat.zero_le _, Nat.zero_le _, rfl, Lib.hid (by rw [ucells_congr (g := fun _ => 0) (fun i _ => if_neg (Nat.not_lt_zero i))]; exact HW1.out), HK1⟩
        case round =>
          obtain ⟨t, ht, htx, rfl, HWt, HKt⟩ := hrel
          obtain ⟨ad, B, d, hA, hbl, hcell, hxd, hRd⟩ := HRX.out
          subst hA
          rw [HXL.out] at hcell hRd hxd
          have hKwt := HK.out.trans HKt.out (fun _ _ h => h)
          have hcw : wr.cell? (ad.add k) = some (.slice B xl d) := (hKwt.cell (by rw [blk_add]; exact hbl) (fun h => h)).trans hcell
          have hRw := hRd.keeps hKwt (fun _ _ h => h)
          by_cases htn : t < n
          · by_cases htl : t < xl
            · obtain ⟨ad2, u, rfl, hb2, hu, hc2⟩ := hRw.at' htl
              obtain ⟨x, hxt⟩ : ∃ x, X[t]? = some x := ⟨_, List.getElem?_eq_getElem (by rw [HXL.out]; exact htl)⟩
              obtain rfl : u = .int .u32 (x : Int) := by
                rw [nv, List.getElem?_map, hxt] at hu
                injection hu with hu
                exact hu.symm
              have hx32 := HX2.out x (List.mem_of_getElem? hxt)
              have HGD := Lib.hid (show X.getD t 0 = x by simp [hxt])
              have hc0 := HWt.out.cell t
              rw [ucells_get htn] at hc0
              have hfz := HWt.out.frozen t
              have hgl := HWt.out.lt
              have b1 : Go.bits .and .u32 ((x : Int) / 8388608) 255 = ((x / 8388608 % 256 : Nat) : Int) := by
                have h := band_u32 (x / 8388608) 255 (by omega) (by omega)
                rw [show x / 8388608 &&& 255 = x / 8388608 % 256 from Nat.and_two_pow_sub_one_eq_mod _ 8] at h
                rw [← h]; rfl
              have b2 : Go.bits .and .u32 (x : Int) 2155872255 = ((x &&& 2155872255 : Nat) : Int) := band_u32 x 2155872255 hx32 (by omega)
              obtain ⟨ex, hex⟩ : ∃ ex, x / 8388608 % 256 = ex := ⟨_, rfl⟩
              rw [hex] at b1
              have HFX := Lib.hid (show fixx x = if 254 ≤ ex then x &&& 2155872255 else x by rw [fixx, hex])
              have HPUT := Lib.hid (fun y (hy : fixx x = y) => show ucells n (fun j => if j = t then y else if j < t then fixx (X.getD j 0) else 0) = ucells n (fun i => if i < t + 1 then fixx (X.getD i 0) else 0) from ucells_congr fun i _ => by
                by_cases hi : i = t
                · subst hi; rw [if_pos rfl, if_pos (by omega), HGD.out, hy]
                · rw [if_neg hi]
                  by_cases h2 : i < t
                  · rw [if_pos h2, if_pos (by omega)]
                  · rw [if_neg h2, if_neg (by omega)])
              clear hu hxt hex hx32 hcell hRd hRw hKwt
              by_cases h254 : (254 : Int) ≤ (ex : Int)
              · go_wp2_with fail
                go_roundw
                case rel => exact ⟨t + 1, by omega, by omega, by go_num, Lib.hid (by
                  have hh := (HWt.out.put t (.int .u32 (x : Int))).put t (.int .u32 ((x &&& 2155872255 : Nat) : Int))
                  rw [ucells_put, ucells_put] at hh
                  rw [← HPUT.out (x &&& 2155872255) (by rw [HFX.out, if_pos (by omega)])]
                  rw [ucells_congr (g := fun j => if j = t then x &&& 2155872255 else if j = t then x else if j < t then fixx (X.getD j 0) else 0) (fun j _ => by by_cases hj : j = t <;> simp [hj])]
                  exact hh), Lib.hid ((HKt.out.setCell (p := ⟨g, t, none⟩) (.inr (by rw [HG.out]; exact Nat.le_refl _)) _).setCell (p := ⟨g, t, none⟩) (.inr (by rw [HG.out]; exact Nat.le_refl _)) _)⟩
                case measure => (first | (simp [RowKit.intOf]; done) | (simp [RowKit.intOf]; omega))
              · go_wp2_with fail
                go_roundw
                case rel => exact ⟨t + 1, by omega, by omega, by go_num, Lib.hid (by rw [← HPUT.out x (by rw [HFX.out, if_neg (by omega)]), ← ucells_put]; exact HWt.out.put t _), Lib.hid (HKt.out.setCell (p := ⟨g, t, none⟩) (.inr (by rw [HG.out]; exact Nat.le_refl _)) _)⟩
                case measure => (first | (simp [RowKit.intOf]; done) | (simp [RowKit.intOf]; omega))
            · have HFIN := Lib.hid (show Whole wr g 32 (ucells n (fun i => (fixv n X).getD i 0)) by
                rw [ucells_congr (g := fun i => if i < t then fixx (X.getD i 0) else 0) (fun i hi => by
                  rw [fixv, list_getD _ hi]
                  by_cases h : i < t
                  · rw [if_pos h]
                  · rw [if_neg h]
                    rw [show X.getD i 0 = 0 by rw [List.getD, List.getElem?_eq_none (by rw [HXL.out]; omega)]; rfl]; exact fixx_zero)]
                exact HWt.out)
              have HV2 := Lib.hid ((HWV.out.1.new0 HKt.out).new0 ((Keeps.refl (fun _ => False) wr).alloc (.cells #[.slice (some ⟨g, 0, none⟩) n n] 35)))
              have HLT := Lib.hid (show ∀ y ∈ bs, y < g from fun y hy => by have := HWV.out.1.lt y hy; rw [HG.out] at this; exact this)
              have hKa := (HK.out.trans HKt.out (fun _ _ h => h)).alloc (.cells #[.slice (some ⟨g, 0, none⟩) n n] 35)
              have HGW := Lib.hid (show w.heap.size ≤ g by have := HK.out.size; rw [HG.out] at this; exact this)
              clear hRw hKwt hcell hRd
              go_wp2_with (at_builtin
                           refine wpList_append_rd _ rfl (.tmp 74) (.tmp 76) _ rfl w.heap.size 35 i0 _ 1 24 Try.underlying22 hi0 hz0 hz1 hz2 rfl Nat.one_pos T ct k _ rfl HV2.out.outer (some ⟨wr.heap.size, 0, none⟩) 1 1 [.slice (some ⟨g, 0, none⟩) n n] rfl (rd_cell wr 35 _) (by intro u hu; rw [List.mem_singleton.1 hu]; rfl) (by simp only [maxLen]; omega) (by omega) hKa.size ?_
                           intro T2 ct2 w7 ho hg7 hat7)
              have hK7 := hKa.grown hg7 (fun i hi => .inr (HV2.out.outer.lt i (by rw [ownBlock_slice]; exact hi)).1)
              have HV7 := Lib.hid (HV2.out.snoc HGW.out (show (fixv n X).length = n by simp [fixv]) (HFIN.out.alloc _) HLT.out hg7 ho)
              have HK7 := Lib.hid hK7
              clear hK7 ho hg7 hat7 hKa
              go_wp2_with fail
              go_roundw
              case rel => exact ⟨k + 1, T2, ct2, bs ++ [g], by omega, by omega, rfl, by go_num, Lib.hid (by rw [HTK.out]; exact HV7.out), HK7⟩
              case measure => (first | (simp [RowKit.intOf]; done) | (simp [RowKit.intOf]; omega))
          · have HFIN := Lib.hid (show Whole wr g 32 (ucells n (fun i => (fixv n X).getD i 0)) by
              rw [ucells_congr (g := fun i => if i < t then fixx (X.getD i 0) else 0) (fun i hi => by
                rw [fixv, list_getD _ hi]
                by_cases h : i < t
                · rw [if_pos h]
                · rw [if_neg h]
                  omega)]
              exact HWt.out)
            have HV2 := Lib.hid ((HWV.out.1.new0 HKt.out).new0 ((Keeps.refl (fun _ => False) wr).alloc (.cells #[.slice (some ⟨g, 0, none⟩) n n] 35)))
            have HLT := Lib.hid (show ∀ y ∈ bs, y < g from fun y hy => by have := HWV.out.1.lt y hy; rw [HG.out] at this; exact this)
            have hKa := (HK.out.trans HKt.out (fun _ _ h => h)).alloc (.cells #[.slice (some ⟨g, 0, none⟩) n n] 35)
            have HGW := Lib.hid (show w.heap.size ≤ g by have := HK.out.size; rw [HG.out] at this; exact this)
            clear hRw hKwt hcell hRd
            go_wp2_with (at_builtin
                         refine wpList_append_rd _ rfl (.tmp 74) (.tmp 76) _ rfl w.heap.size 35 i0 _ 1 24 Try.underlying22 hi0 hz0 hz1 hz2 rfl Nat.one_pos T ct k _ rfl HV2.out.outer (some ⟨wr.heap.size, 0, none⟩) 1 1 [.slice (some ⟨g, 0, none⟩) n n] rfl (rd_cell wr 35 _) (by intro u hu; rw [List.mem_singleton.1 hu]; rfl) (by simp only [maxLen]; omega) (by omega) hKa.size ?_
                         intro T2 ct2 w7 ho hg7 hat7)
            have hK7 := hKa.grown hg7 (fun i hi => .inr (HV2.out.outer.lt i (by rw [ownBlock_slice]; exact hi)).1)
            have HV7 := Lib.hid (HV2.out.snoc HGW.out (show (fixv n X).length = n by simp [fixv]) (HFIN.out.alloc _) HLT.out hg7 ho)
            have HK7 := Lib.hid hK7
            clear hK7 ho hg7 hat7 hKa
            go_wp2_with fail
            go_roundw
            case rel => exact ⟨k + 1, T2, ct2, bs ++ [g], by omega, by omega, rfl, by go_num, Lib.hid (by rw [HTK.out]; exact HV7.out), HK7⟩
            case measure => (first | (simp [RowKit.intOf]; done) | (simp [RowKit.intOf]; omega))
      · have HKE := Lib.hid (show k = 8 by omega)
        have HKL := Lib.hid (show (LL.take 8).length = k by have := HKE.out; rw [List.length_take, HL.out]; omega)
        have hC : (ucells n (fun _ => 0)).setIfInBounds 0 (.int .u32 1069547520) = ucells n (fun i => (lastv n).getD i 0) := by
          rw [show (Value.int .u32 1069547520) = .int .u32 ((1069547520 : Nat) : Int) from rfl, ucells_put]
          refine ucells_congr fun i hi => ?_
          rw [lastv, list_getD _ hi]
        obtain ⟨C, hCC⟩ : ∃ C, (ucells n (fun _ => 0)).setIfInBounds 0 (.int .u32 1069547520) = C := ⟨_, rfl⟩
        rw [hCC] at hC
        have K2 := ((Keeps.refl (fun _ => False) wr).alloc (.cells C 32)).alloc (.cells #[.slice (some ⟨wr.heap.size, 0, none⟩) n n] 35)
        have HV2 := Lib.hid (HV.out.new0 K2)
        have hr2 := rd_cell (wr.alloc (.cells C 32)) 35 (.slice (some ⟨wr.heap.size, 0, none⟩) n n)
        rw [World.size_alloc] at hr2
        have HR2 := Lib.hid hr2
        have HWL := Lib.hid ((Whole.new wr 32 C).alloc (.cells #[.slice (some ⟨wr.heap.size, 0, none⟩) n n] 35))
        have hs2 := (HK.out.trans K2 (fun _ _ h => h)).size
        have HLT := Lib.hid HV.out.lt
        have huz : (ucells n (fun _ => 0))[0]? = some (.int .u32 0) := ucells_get hn0
        have HC := Lib.hid hC
        have HCC := Lib.hid hCC
        clear hC hCC hr2 K2
        go_upto_region 16 with fail
        rw [HCC.out]
        go_wp2_with (at_builtin
                     refine wpList_append_rd _ rfl (.tmp 84) (.tmp 86) _ rfl w.heap.size 35 i0 _ 1 24 Try.underlying22 hi0 hz0 hz1 hz2 rfl Nat.one_pos T ct k _ rfl HV2.out.outer (some ⟨wr.heap.size + 1, 0, none⟩) 1 1 [.slice (some ⟨wr.heap.size, 0, none⟩) n n] rfl HR2.out (by intro u hu; rw [List.mem_singleton.1 hu]; rfl) (by simp only [maxLen]; omega) (by omega) hs2 ?_
                     intro T2 ct2 w7 ho hg7 hat7)
        have hK7 := ((HK.out.alloc (.cells C 32)).alloc (.cells #[.slice (some ⟨wr.heap.size, 0, none⟩) n n] 35)).grown hg7 (fun i hi => .inr (HV2.out.outer.lt i (by rw [ownBlock_slice]; exact hi)).1)
        have hV7 := HV2.out.snoc (b := wr.heap.size) (V := lastv n) HK.out.size (by simp [lastv]) (by rw [← HC.out]; exact HWL.out) HLT.out hg7 ho
        have HV7 := Lib.hid hV7
        have HK7 := Lib.hid hK7
        clear hK7 hV7 ho hg7 hat7 hs2
        go_wp2_with fail
        go_ret3
        refine ⟨T2, ct2, bs ++ [wr.heap.size], by rw [HKL.out]; rfl, ?_, HK7.out⟩
        rw [HKL.out]
        rw [← HKE.out]; exact HV7.out
    · have HKE := Lib.hid (show k = nl by omega)
      have HKL := Lib.hid (show (LL.take 8).length = k by have := HKE.out; rw [List.length_take, HL.out]; omega)
      have HTE := Lib.hid (show LL.take 8 = LL.take k by rw [List.take_of_length_le (by have := HKE.out; rw [HL.out]; omega), List.take_of_length_le (by have := HKE.out; rw [HL.out]; omega)])
      have hC : (ucells n (fun _ => 0)).setIfInBounds 0 (.int .u32 1069547520) = ucells n (fun i => (lastv n).getD i 0) := by
        rw [show (Value.int .u32 1069547520) = .int .u32 ((1069547520 : Nat) : Int) from rfl, ucells_put]
        refine ucells_congr fun i hi => ?_
        rw [lastv, list_getD _ hi]
      obtain ⟨C, hCC⟩ : ∃ C, (ucells n (fun _ => 0)).setIfInBounds 0 (.int .u32 1069547520) = C := ⟨_, rfl⟩
      rw [hCC] at hC
      have K2 := ((Keeps.refl (fun _ => False) wr).alloc (.cells C 32)).alloc (.cells #[.slice (some ⟨wr.heap.size, 0, none⟩) n n] 35)
      have HV2 := Lib.hid (HV.out.new0 K2)
      have hr2 := rd_cell (wr.alloc (.cells C 32)) 35 (.slice (some ⟨wr.heap.size, 0, none⟩) n n)
      rw [World.size_alloc] at hr2
      have HR2 := Lib.hid hr2
      have HWL := Lib.hid ((Whole.new wr 32 C).alloc (.cells #[.slice (some ⟨wr.heap.size, 0, none⟩) n n] 35))
      have hs2 := (HK.out.trans K2 (fun _ _ h => h)).size
      have HLT := Lib.hid HV.out.lt
      have huz : (ucells n (fun _ => 0))[0]? = some (.int .u32 0) := ucells_get hn0
      have HC := Lib.hid hC
      have HCC := Lib.hid hCC
      clear hC hCC hr2 K2
      go_upto_region 16 with fail
      rw [HCC.out]
      go_wp2_with (at_builtin
                   refine wpList_append_rd _ rfl (.tmp 84) (.tmp 86) _ rfl w.heap.size 35 i0 _ 1 24 Try.underlying22 hi0 hz0 hz1 hz2 rfl Nat.one_pos T ct k _ rfl HV2.out.outer (some ⟨wr.heap.size + 1, 0, none⟩) 1 1 [.slice (some ⟨wr.heap.size, 0, none⟩) n n] rfl HR2.out (by intro u hu; rw [List.mem_singleton.1 hu]; rfl) (by simp only [maxLen]; omega) (by omega) hs2 ?_
                   intro T2 ct2 w7 ho hg7 hat7)
      have hK7 := ((HK.out.alloc (.cells C 32)).alloc (.cells #[.slice (some ⟨wr.heap.size, 0, none⟩) n n] 35)).grown hg7 (fun i hi => .inr (HV2.out.outer.lt i (by rw [ownBlock_slice]; exact hi)).1)
      have hV7 := HV2.out.snoc (b := wr.heap.size) (V := lastv n) HK.out.size (by simp [lastv]) (by rw [← HC.out]; exact HWL.out) HLT.out hg7 ho
      have HV7 := Lib.hid hV7
      have HK7 := Lib.hid hK7
      clear hK7 hV7 ho hg7 hat7 hs2
      go_wp2_with fail
      go_ret3
      refine ⟨T2, ct2, bs ++ [wr.heap.size], by rw [HKL.out]; rfl, ?_, HK7.out⟩
      rw [HKL.out]
      rw [HTE.out]; exact HV7.out
end Go.Proofs.Ytfkokngjclaikaa
