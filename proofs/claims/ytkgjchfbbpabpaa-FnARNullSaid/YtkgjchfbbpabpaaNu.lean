/- A nullable column of strings: made, values appended. Conditions: sizes far below the machine's. -/
import Derived.Test.YtkgjchfbbpabpaaTrnM
import Derived.Test.YtkgjchfbbpabpaaMq
namespace Go.Proofs.Ytkgjchfbbpabpaa
open Go.RowKit Go.Lib
set_option linter.unusedVariables false
def U8App (w : World) (base gm : Nat) (t : TypeId) (cs : Array Value) (O : Option Addr) (nO : Nat) (OV : List Value) (v : Value) (e : Ending) (w' : World) : Prop := ∃ O' ko', e = .returned (.tuple #[]) ∧ Whole w' gm t (cs.setIfInBounds 0 (.slice O' (nO + 1) ko')) ∧ w'.ownsRow base 5 1 (.slice O' (nO + 1) ko') (nO + 1) (OV ++ [v]) ∧ Keeps (fun k => k = gm ∨ ob O = some k) w w' ∧ (ob O' = ob O ∨ ∀ k, ob O' = some k → w.heap.size ≤ k)
set_option maxRecDepth 100000 in
set_option maxHeartbeats 1000000 in
theorem u8Append (w : World) (base gm : Nat) (t : TypeId) (cs : Array Value) (O : Option Addr) (ko nO : Nat) (OV : List Value) (x : Nat) (hW : Whole w gm t cs) (h0 : cs[0]? = some (.slice O nO ko)) (ho : w.ownsRow base 5 1 (.slice O nO ko) nO OV) (ht : t ≠ 5) (hb : base ≤ gm) (hn : nO ≤ 100000) :
    Calls Try.prog 56 #[.pointer (some ⟨gm, 0, none⟩), .int .u8 (x : Int)] w fun e w' => U8App w base gm t cs O nO OV (.int .u8 (x : Int)) e w' := by
  obtain ⟨i0, hi0, hz0, hz1, hz2⟩ := info_parts infoU8
  have hlt := hW.lt
  have c0 : w.cell? ⟨gm, 0, none⟩ = some (.slice O nO ko) := by rw [hW.cell 0]; exact h0
  have nO1 : ob O ≠ some gm := by have := own_far ho hW (Ne.symm ht); rwa [ownBlock_slice] at this
  have Ka := (Keeps.refl (fun _ => False) w).alloc (.cells #[.int .u8 (x : Int)] 5)
  have hWa := hW.keeps Ka (fun h => h)
  have hoa := own_keeps ho Ka (fun _ _ h => h)
  have hba : base ≤ (World.heap (w.alloc (.cells #[.int .u8 (x : Int)] 5))).size := by have := Ka.size; omega
  have HWA := Lib.hid hWa
  have HW := Lib.hid hW
  clear hWa h0 hW
  go_enter Try.func56, Try.ntmps56
  go_wp2_with (at_builtin
               refine wpList_append_rd _ rfl (.tmp 7) (.tmp 9) _ rfl base 5 i0 _ 1 1 Try.underlying116 hi0 hz0 hz1 hz2 rfl Nat.one_pos O ko nO _ rfl hoa (some ⟨w.heap.size, 0, none⟩) 1 1 [.int .u8 (x : Int)] rfl (rd_one w 5 _) (one_val _ rfl) (by simp only [maxLen]; omega) (by omega) hba ?_
               intro O3 k3 w3 o3 hg3 hat3
               have hb3 := HWA.out.grown hg3 (Ne.symm nO1)
               have e30 : w3.cell? ⟨gm, 0, none⟩ = some (.slice O nO ko) := by rw [hb3.cell 0, ← HW.out.cell 0]; exact c0
               have f30 : w3.frozen? ⟨gm, 0, none⟩ = false := hb3.frozen 0
               have hl3 := hb3.lt)
  go_end0
  have K3 : Keeps (fun i => ob O = some i) w w3 := (Ka.mono (S' := fun i => ob O = some i) (fun _ _ h => h.elim)).grown hg3 (fun k hk => .inl hk)
  have nO3 : ob O3 ≠ some gm := by have := own_far o3 hb3 (Ne.symm ht); rwa [ownBlock_slice] at this
  have K4 := (Keeps.refl (fun i => i = gm) w3).setCell (p := ⟨gm, 0, none⟩) (.inl rfl) (.slice O3 (nO + 1) k3)
  refine ⟨O3, k3, rfl, hb3.put 0 _, own_keeps o3 K4 (fun k hk h => by rw [ownBlock_slice] at hk; exact nO3 (h ▸ hk)), (K3.mono (S' := fun k => k = gm ∨ ob O = some k) (fun _ _ h => .inr h)).trans K4 (fun _ _ h => .inl h), ?_⟩
  rcases hat3 with h | h
  · exact .inl h
  · refine .inr fun k hk => ?_
    rw [h] at hk
    injection hk with hk
    have := Ka.size
    omega
/-- A nullable column. -/
structure NulAt (w : World) (base gn gs : Nat) (O : Option Addr) (ko nO : Nat) (A : Option Addr) (c : Nat) (B : Option Addr) (d : Nat) (NB : List UInt8) (KS : List (List UInt8)) : Prop where
  blk : Whole w gn 118 #[.slice O nO ko, .iface 79 (.pointer (some ⟨gs, 0, none⟩))]
  off : w.ownsRow base 5 1 (.slice O nO ko) nO (Lib.byteCells NB)
  col : ColAt w base gs A c B d KS
  apart : ∀ k, ob O = some k → ¬ ColS gs A B k
  lo : base ≤ gn
def NulS (gn gs : Nat) (O A B : Option Addr) (k : Nat) : Prop := (k = gn ∨ ob O = some k) ∨ ColS gs A B k
section
variable {w w' : World} {base gn gs ko nO c d : Nat} {O A B : Option Addr} {NB : List UInt8} {KS : List (List UInt8)}
theorem NulAt.new (h : NulAt w base gn gs O ko nO A c B d NB KS) (hk : Keeps (fun _ => False) w w') : NulAt w' base gn gs O ko nO A c B d NB KS :=
  ⟨h.blk.keeps hk (fun h => h), own_keeps h.off hk (fun _ _ h => h), h.col.new hk, h.apart, h.lo⟩
theorem NulAt.farG (h : NulAt w base gn gs O ko nO A c B d NB KS) : ¬ ColS gs A B gn := by
  rintro (h1 | h1 | h1)
  · exact h.blk.differ h.col.blk (by decide) h1
  · have := own_far h.col.buf h.blk (by decide); rw [ownBlock_slice] at this; exact this h1
  · have := own_far h.col.pos h.blk (by decide); rw [ownBlock_slice] at this; exact this h1
theorem NulAt.inO (h : NulAt w base gn gs O ko nO A c B d NB KS) {k : Nat} (hk : ob O = some k) : base ≤ k ∧ k < w.heap.size := h.off.lt k (by rw [ownBlock_slice]; exact hk)
theorem NulAt.inS (h : NulAt w base gn gs O ko nO A c B d NB KS) {k : Nat} (hk : NulS gn gs O A B k) : base ≤ k ∧ k < w.heap.size := by
  rcases hk with (hk | hk) | hk
  · rw [hk]; exact ⟨h.lo, h.blk.lt⟩
  · exact h.inO hk
  · exact h.col.inS hk
theorem NulAt.stepCol {A' B' : Option Addr} {c' d' : Nat} {KS' : List (List UInt8)} (h : NulAt w base gn gs O ko nO A c B d NB KS) (hp : ColPut w w' base gs A B A' c' B' d' KS') : NulAt w' base gn gs O ko nO A' c' B' d' NB KS' := by
  refine ⟨h.blk.keeps hp.keeps h.farG, own_keeps h.off hp.keeps (fun k hk => by rw [ownBlock_slice] at hk; exact h.apart k hk), hp.at', fun k h1 h2 => ?_, h.lo⟩
  rcases hp.inS h2 with h3 | h3
  · exact h.apart k h1 h3
  · have := (h.inO h1).2; omega
theorem NulAt.stepNul {v : UInt8} {e : Ending} {x : Nat} (hv : (v.toNat : Int) = (x : Int)) (h : NulAt w base gn gs O ko nO A c B d NB KS) (hu : U8App w base gn 118 #[.slice O nO ko, .iface 79 (.pointer (some ⟨gs, 0, none⟩))] O nO (Lib.byteCells NB) (.int .u8 (x : Int)) e w') : ∃ O' ko', e = .returned (.tuple #[]) ∧ NulAt w' base gn gs O' ko' (nO + 1) A c B d (NB ++ [v]) KS ∧ Keeps (fun k => k = gn ∨ ob O = some k) w w' ∧ (ob O' = ob O ∨ ∀ k, ob O' = some k → w.heap.size ≤ k) := by
  obtain ⟨O', ko', he, hW, ho, hK, hr⟩ := hu
  have hb : Lib.byteCells (NB ++ [v]) = Lib.byteCells NB ++ [.int .u8 (x : Int)] := by rw [Lib.byteCells_append, ← hv]; rfl
  refine ⟨O', ko', he, ⟨hW, by rw [hb]; exact ho, h.col.keeps hK (fun h1 => ?_) (fun k hk h1 => ?_) (fun k hk h1 => ?_), fun k h1 h2 => ?_, h.lo⟩, hK, hr⟩
  · rcases h1 with h1 | h1
    · exact h.farG (h1 ▸ .inl rfl)
    · exact h.apart _ h1 (.inl rfl)
  · rcases h1 with h1 | h1
    · exact h.farG (h1 ▸ .inr (.inl hk))
    · exact h.apart _ h1 (.inr (.inl hk))
  · rcases h1 with h1 | h1
    · exact h.farG (h1 ▸ .inr (.inr hk))
    · exact h.apart _ h1 (.inr (.inr hk))
  · rcases hr with e2 | e2
    · exact h.apart k (e2 ▸ h1) h2
    · have := e2 k h1; have := (h.col.inS h2).2; omega
/-- A row of another type is no part of such a column. -/
theorem NulAt.row {b0 n k0 s : Nat} {t : TypeId} {E : Option Addr} {xs : List Value} (h : NulAt w base gn gs O ko nO A c B d NB KS) (hE : w.ownsRow b0 t s (.slice E n k0) n xs) (h0 : t ≠ 118) (h1 : t ≠ 82) (h2 : t ≠ 5) (h3 : t ≠ 162) : ∀ k, ob E = some k → ¬ NulS gn gs O A B k := by
  rintro k hk ((h4 | h4) | (h4 | h4 | h4))
  · have := own_far hE h.blk h0; rw [ownBlock_slice] at this; exact this (h4 ▸ hk)
  · have := own_apart hE h.off h2; simp only [ownBlock_slice] at this; exact this k hk h4
  · have := own_far hE h.col.blk h1; rw [ownBlock_slice] at this; exact this (h4 ▸ hk)
  · have := own_apart hE h.col.buf h2; simp only [ownBlock_slice] at this; exact this k hk h4
  · have := own_apart hE h.col.pos h3; simp only [ownBlock_slice] at this; exact this k hk h4
end
def nulBit (b : Bool) : UInt8 := if b then 0 else 1
def NulRes (w : World) (base gn gs nO : Nat) (O A B : Option Addr) (NB : List UInt8) (KS : List (List UInt8)) (e : Ending) (w' : World) : Prop := ∃ O' ko A' c B' d, e = .returned (.tuple #[]) ∧ NulAt w' base gn gs O' ko nO A' c B' d NB KS ∧ Keeps (NulS gn gs O A B) w w'
def NulNew (w : World) (g : Nat) (e : Ending) (w' : World) : Prop := e = .returned (.pointer (some ⟨w.heap.size, 0, none⟩)) ∧ w' = w.alloc (.cells #[.slice none 0 0, .iface 79 (.pointer (some ⟨g, 0, none⟩))] 118)
set_option maxRecDepth 100000 in
theorem nulNew (w : World) (g : Nat) :
    Calls Try.prog 40 #[.pointer (some ⟨g, 0, none⟩)] w fun e w' => NulNew w g e w' := by
  go_enter Try.func40, Try.ntmps40
  go_wp2_with fail
  go_ret
  exact ⟨rfl, rfl⟩
/-- A new one. -/
theorem nulAt_new (w : World) : NulAt ((w.alloc (.cells #[.slice none 0 0, .slice none 0 0] 82)).alloc (.cells #[.slice none 0 0, .iface 79 (.pointer (some ⟨w.heap.size, 0, none⟩))] 118)) w.heap.size (w.heap.size + 1) w.heap.size none 0 0 none 0 none 0 [] [] := by
  have K1 := (Keeps.refl (fun _ => False) (w.alloc (.cells #[.slice none 0 0, .slice none 0 0] 82))).alloc (.cells #[.slice none 0 0, .iface 79 (.pointer (some ⟨w.heap.size, 0, none⟩))] 118)
  have h := Whole.new (w.alloc (.cells #[.slice none 0 0, .slice none 0 0] 82)) 118 #[.slice none 0 0, .iface 79 (.pointer (some ⟨w.heap.size, 0, none⟩))]
  simp only [World.size_alloc] at h
  exact ⟨h, ⟨rfl, .inl ⟨rfl, rfl⟩⟩, (colNew w (Nat.le_refl _)).new K1, (fun k hk => by cases hk), by omega⟩

set_option maxRecDepth 100000 in
set_option maxHeartbeats 4000000 in
theorem nulAppend (w : World) (base gn gs : Nat) (O : Option Addr) (ko nO : Nat) (A : Option Addr) (c : Nat) (B : Option Addr) (d : Nat) (NB : List UInt8) (KS : List (List UInt8)) (b : Bool) (s : ByteArray) (hM : NulAt w base gn gs O ko nO A c B d NB KS) (hn : nO ≤ 100000) (hk1 : KS.flatten.length ≤ 1000000000) (hk2 : KS.length ≤ 1000000) (hs : s.size ≤ 1000000) :
    Calls Try.prog 54 #[.pointer (some ⟨gn, 0, none⟩), .agg #[.bool b, .string s]] w fun e w' => NulRes w base gn gs (nO + 1) O A B (NB ++ [nulBit b]) (KS ++ [sl s]) e w' := by
  have hlt := hM.blk.lt
  have K0 := (Keeps.refl (fun _ => False) w).alloc (.cells #[.bool b, .string s] 77)
  have HM := Lib.hid (hM.new K0)
  have HWB := Lib.hid (Whole.new w 77 #[.bool b, .string s])
  have HK0 := Lib.hid K0
  have HB := Lib.hid (And.intro hk1 (And.intro hk2 hs))
  have hme := mColApM
  clear hM K0 hs
  go_enter Try.func54, Try.ntmps54
  cases b with
  | false =>
      have HU := Lib.hid (u8Append (w.alloc (.cells #[.bool false, .string s] 77)) base gn 118 #[.slice O nO ko, .iface 79 (.pointer (some ⟨gs, 0, none⟩))] O ko nO (Lib.byteCells NB) 1 HM.out.blk rfl HM.out.off (by decide) HM.out.lo hn)
      clear hk1 hk2 hn
      go_wp2_with fail
      refine HU.out.mono ?_
      intro e w2 hu
      obtain ⟨O2, k2, rfl, hM2, K2, hr2⟩ := HM.out.stepNul (v := nulBit false) (x := 1) (by decide) hu
      have hW2 : Whole w2 w.heap.size 77 #[.bool false, .string s] := HWB.out.keeps K2 (by
        rintro (h1 | h1)
        · exact HWB.out.differ HM.out.blk (by decide) h1
        · have := own_far HM.out.off HWB.out (by decide); rw [ownBlock_slice] at this; exact this h1)
      have hM2d := hM2.new (Keeps.refl (fun _ => False) w2).drew
      have s0 : (fun w' => w'.cell? ⟨gn, 1, none⟩ = some (.iface 79 (.pointer (some ⟨gs, 0, none⟩))) ∧ w'.cell? ⟨w.heap.size, 1, none⟩ = some (.string s)) w2.drew := ⟨hM2d.blk.cell 1, hW2.drew.cell 1⟩
      have HA := Lib.hid (colAppend w2.drew base gs A c B d KS s hM2d.col HB.out.1 HB.out.2.1 HB.out.2.2)
      have HM2 := Lib.hid hM2d
      have HW2 := Lib.hid hW2.drew
      have HK2 := Lib.hid K2
      have HR2 := Lib.hid hr2
      clear hM2 hM2d hW2 K2 hr2 hu
      go_wp2_with fail
      go_region_held3 (fun w' => w'.cell? ⟨gn, 1, none⟩ = some (.iface 79 (.pointer (some ⟨gs, 0, none⟩))) ∧ w'.cell? ⟨w.heap.size, 1, none⟩ = some (.string s)) (first | exact s0 | exact s1) (
        (go_simp; go_at_call 94; refine HA.out.mono ?_; rintro e w3 ⟨A', c', B', d', rfl, hP⟩; have hM3 := HM2.out.stepCol hP; have hW3 := hP.box HM2.out.col HW2.out (by decide) (by decide) (by decide); have s1 : (fun w' => w'.cell? ⟨gn, 1, none⟩ = some (.iface 79 (.pointer (some ⟨gs, 0, none⟩))) ∧ w'.cell? ⟨w.heap.size, 1, none⟩ = some (.string s)) w3 := ⟨hM3.blk.cell 1, hW3.cell 1⟩))
      all_goals
        go_end0
        refine ⟨O2, k2, A', c', B', d', rfl, hM3, ?_⟩
        exact ((HK0.out.mono (S' := NulS gn gs O A B) (fun _ _ h => h.elim)).trans (HK2.out.mono (S' := NulS gn gs O A B) (fun _ _ h => .inl h)) (fun _ _ h => h)).trans (((Keeps.refl (fun _ => False) w2).drew.mono (S' := ColS gs A B) (fun _ _ h => h.elim)).trans hP.keeps (fun _ _ h => h)) (fun _ _ h => .inr h)
  | true =>
      have HU := Lib.hid (u8Append (w.alloc (.cells #[.bool true, .string s] 77)) base gn 118 #[.slice O nO ko, .iface 79 (.pointer (some ⟨gs, 0, none⟩))] O ko nO (Lib.byteCells NB) 0 HM.out.blk rfl HM.out.off (by decide) HM.out.lo hn)
      clear hk1 hk2 hn
      go_wp2_with fail
      refine HU.out.mono ?_
      intro e w2 hu
      obtain ⟨O2, k2, rfl, hM2, K2, hr2⟩ := HM.out.stepNul (v := nulBit true) (x := 0) (by decide) hu
      have hW2 : Whole w2 w.heap.size 77 #[.bool true, .string s] := HWB.out.keeps K2 (by
        rintro (h1 | h1)
        · exact HWB.out.differ HM.out.blk (by decide) h1
        · have := own_far HM.out.off HWB.out (by decide); rw [ownBlock_slice] at this; exact this h1)
      have hM2d := hM2.new (Keeps.refl (fun _ => False) w2).drew
      have s0 : (fun w' => w'.cell? ⟨gn, 1, none⟩ = some (.iface 79 (.pointer (some ⟨gs, 0, none⟩))) ∧ w'.cell? ⟨w.heap.size, 1, none⟩ = some (.string s)) w2.drew := ⟨hM2d.blk.cell 1, hW2.drew.cell 1⟩
      have HA := Lib.hid (colAppend w2.drew base gs A c B d KS s hM2d.col HB.out.1 HB.out.2.1 HB.out.2.2)
      have HM2 := Lib.hid hM2d
      have HW2 := Lib.hid hW2.drew
      have HK2 := Lib.hid K2
      have HR2 := Lib.hid hr2
      clear hM2 hM2d hW2 K2 hr2 hu
      go_wp2_with fail
      go_region_held3 (fun w' => w'.cell? ⟨gn, 1, none⟩ = some (.iface 79 (.pointer (some ⟨gs, 0, none⟩))) ∧ w'.cell? ⟨w.heap.size, 1, none⟩ = some (.string s)) (first | exact s0 | exact s1) (
        (go_simp; go_at_call 94; refine HA.out.mono ?_; rintro e w3 ⟨A', c', B', d', rfl, hP⟩; have hM3 := HM2.out.stepCol hP; have hW3 := hP.box HM2.out.col HW2.out (by decide) (by decide) (by decide); have s1 : (fun w' => w'.cell? ⟨gn, 1, none⟩ = some (.iface 79 (.pointer (some ⟨gs, 0, none⟩))) ∧ w'.cell? ⟨w.heap.size, 1, none⟩ = some (.string s)) w3 := ⟨hM3.blk.cell 1, hW3.cell 1⟩))
      all_goals
        go_end0
        refine ⟨O2, k2, A', c', B', d', rfl, hM3, ?_⟩
        exact ((HK0.out.mono (S' := NulS gn gs O A B) (fun _ _ h => h.elim)).trans (HK2.out.mono (S' := NulS gn gs O A B) (fun _ _ h => .inl h)) (fun _ _ h => h)).trans (((Keeps.refl (fun _ => False) w2).drew.mono (S' := ColS gs A B) (fun _ _ h => h.elim)).trans hP.keeps (fun _ _ h => h)) (fun _ _ h => .inr h)
end Go.Proofs.Ytkgjchfbbpabpaa
