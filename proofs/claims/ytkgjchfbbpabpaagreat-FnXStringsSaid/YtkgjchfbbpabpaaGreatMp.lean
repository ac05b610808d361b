/- A column of maps of strings: made, rows appended. Conditions: sizes far below the machine's. -/
import Derived.Test.YtkgjchfbbpabpaaGreatTurn
import Derived.Test.YtkgjchfbbpabpaaGreatSpQ
import Derived.Test.YtkgjchfbbpabpaaGreatEo
import Derived.Deep.RegionHeld3
import Derived.Deep.RegionLaw
namespace Go.Proofs.YtkgjchfbbpabpaaGreat
open Go.RowKit Go.Lib
set_option linter.unusedVariables false
def ColS (g : Nat) (A B : Option Addr) (k : Nat) : Prop := k = g ∨ ob A = some k ∨ ob B = some k
/-- A column of maps. -/
structure MapAt (w : World) (base gm gk gv : Nat) (O : Option Addr) (ko nO : Nat) (A : Option Addr) (c : Nat) (B : Option Addr) (d : Nat) (A2 : Option Addr) (c2 : Nat) (B2 : Option Addr) (d2 : Nat) (KS VS : List (List UInt8)) (OV : List Value) : Prop where
  blk : Whole w gm 188 #[.slice O nO ko, .iface 84 (.pointer (some ⟨gk, 0, none⟩)), .iface 84 (.pointer (some ⟨gv, 0, none⟩))]
  off : w.ownsRow base 47 1 (.slice O nO ko) nO OV
  key : ColAt w base gk A c B d KS
  val : ColAt w base gv A2 c2 B2 d2 VS
  apart : ∀ k, ColS gk A B k → ¬ ColS gv A2 B2 k
  lo : base ≤ gm
section
variable {w w' : World} {base gm gk gv ko nO c d c2 d2 : Nat} {O A B A2 B2 : Option Addr} {KS VS : List (List UInt8)} {OV : List Value}
theorem MapAt.new (h : MapAt w base gm gk gv O ko nO A c B d A2 c2 B2 d2 KS VS OV) (hk : Keeps (fun _ => False) w w') : MapAt w' base gm gk gv O ko nO A c B d A2 c2 B2 d2 KS VS OV :=
  ⟨h.blk.keeps hk (fun h => h), own_keeps h.off hk (fun _ _ h => h), h.key.new hk, h.val.new hk, h.apart, h.lo⟩
theorem ColAt.inS (h : ColAt w base gk A c B d KS) {k : Nat} (hk : ColS gk A B k) : base ≤ k ∧ k < w.heap.size := by
  rcases hk with hk | hk | hk
  · rw [hk]; exact ⟨h.lo, h.blk.lt⟩
  · exact h.rowsLo.1 k hk
  · exact h.rowsLo.2 k hk
theorem ColPut.inS {A' B' : Option Addr} {c' d' : Nat} {KS' : List (List UInt8)} (h : ColPut w w' base gk A B A' c' B' d' KS') {k : Nat} (hk : ColS gk A' B' k) : ColS gk A B k ∨ w.heap.size ≤ k := by
  rcases hk with hk | hk | hk
  · exact .inl (.inl hk)
  · rcases h.rowA with e | e
    · exact .inl (.inr (.inl (e ▸ hk)))
    · exact .inr (e k hk)
  · rcases h.rowB with e | e
    · exact .inl (.inr (.inr (e ▸ hk)))
    · exact .inr (e k hk)
theorem MapAt.farK (h : MapAt w base gm gk gv O ko nO A c B d A2 c2 B2 d2 KS VS OV) : ¬ ColS gk A B gm ∧ ∀ k, ob O = some k → ¬ ColS gk A B k := by
  constructor
  · rintro (h1 | h1 | h1)
    · exact h.blk.differ h.key.blk (by decide) h1
    · have := own_far h.key.buf h.blk (by decide); rw [ownBlock_slice] at this; exact this h1
    · have := own_far h.key.pos h.blk (by decide); rw [ownBlock_slice] at this; exact this h1
  · rintro k hk (h1 | h1 | h1)
    · have := own_far h.off h.key.blk (by decide); rw [ownBlock_slice] at this; exact this (h1 ▸ hk)
    · have := own_apart h.off h.key.buf (by decide); simp only [ownBlock_slice] at this; exact this k hk h1
    · have := own_apart h.off h.key.pos (by decide); simp only [ownBlock_slice] at this; exact this k hk h1
theorem MapAt.swap (h : MapAt w base gm gk gv O ko nO A c B d A2 c2 B2 d2 KS VS OV) : ¬ ColS gv A2 B2 gm ∧ ∀ k, ob O = some k → ¬ ColS gv A2 B2 k := by
  constructor
  · rintro (h1 | h1 | h1)
    · exact h.blk.differ h.val.blk (by decide) h1
    · have := own_far h.val.buf h.blk (by decide); rw [ownBlock_slice] at this; exact this h1
    · have := own_far h.val.pos h.blk (by decide); rw [ownBlock_slice] at this; exact this h1
  · rintro k hk (h1 | h1 | h1)
    · have := own_far h.off h.val.blk (by decide); rw [ownBlock_slice] at this; exact this (h1 ▸ hk)
    · have := own_apart h.off h.val.buf (by decide); simp only [ownBlock_slice] at this; exact this k hk h1
    · have := own_apart h.off h.val.pos (by decide); simp only [ownBlock_slice] at this; exact this k hk h1
theorem MapAt.stepKey {A' B' : Option Addr} {c' d' : Nat} {KS' : List (List UInt8)} (h : MapAt w base gm gk gv O ko nO A c B d A2 c2 B2 d2 KS VS OV) (hp : ColPut w w' base gk A B A' c' B' d' KS') : MapAt w' base gm gk gv O ko nO A' c' B' d' A2 c2 B2 d2 KS' VS OV := by
  refine ⟨h.blk.keeps hp.keeps h.farK.1, own_keeps h.off hp.keeps (fun k hk => by rw [ownBlock_slice] at hk; exact h.farK.2 k hk), hp.at', h.val.keeps hp.keeps (fun h1 => h.apart _ h1 (.inl rfl)) (fun k hk h1 => h.apart _ h1 (.inr (.inl hk))) (fun k hk h1 => h.apart _ h1 (.inr (.inr hk))), fun k h1 h2 => ?_, h.lo⟩
  rcases hp.inS h1 with h3 | h3
  · exact h.apart k h3 h2
  · have := (h.val.inS h2).2; omega
theorem MapAt.stepVal {A' B' : Option Addr} {c' d' : Nat} {VS' : List (List UInt8)} (h : MapAt w base gm gk gv O ko nO A c B d A2 c2 B2 d2 KS VS OV) (hp : ColPut w w' base gv A2 B2 A' c' B' d' VS') : MapAt w' base gm gk gv O ko nO A c B d A' c' B' d' KS VS' OV := by
  refine ⟨h.blk.keeps hp.keeps h.swap.1, own_keeps h.off hp.keeps (fun k hk => by rw [ownBlock_slice] at hk; exact h.swap.2 k hk), h.key.keeps hp.keeps (fun h1 => h.apart _ (.inl rfl) h1) (fun k hk h1 => h.apart _ (.inr (.inl hk)) h1) (fun k hk h1 => h.apart _ (.inr (.inr hk)) h1), hp.at', fun k h1 h2 => ?_, h.lo⟩
  rcases hp.inS h2 with h3 | h3
  · exact h.apart k h1 h3
  · have := (h.key.inS h1).2; omega
theorem ColPut.up {A' B' : Option Addr} {c' d' : Nat} {KS' : List (List UInt8)} (h : ColAt w base gk A c B d KS) (hp : ColPut w w' base gk A B A' c' B' d' KS') : Keeps (fun k => base ≤ k) w w' :=
  hp.keeps.mono fun k _ hk => (h.inS hk).1
/-- A row of another type than a column's blocks is kept by what is put into it. -/
theorem ColPut.row {A' B' E : Option Addr} {c' d' b0 n k0 s : Nat} {t : TypeId} {KS' : List (List UInt8)} {xs : List Value} (h : ColAt w base gk A c B d KS) (hp : ColPut w w' base gk A B A' c' B' d' KS') (hE : w.ownsRow b0 t s (.slice E n k0) n xs) (h1 : t ≠ 87) (h2 : t ≠ 5) (h3 : t ≠ 228) : w'.ownsRow b0 t s (.slice E n k0) n xs := by
  refine own_keeps hE hp.keeps (fun k hk => ?_)
  rw [ownBlock_slice] at hk
  rintro (h4 | h4 | h4)
  · have := own_far hE h.blk h1; rw [ownBlock_slice] at this; exact this (h4 ▸ hk)
  · have := own_apart hE h.buf h2; simp only [ownBlock_slice] at this; exact this k hk h4
  · have := own_apart hE h.pos h3; simp only [ownBlock_slice] at this; exact this k hk h4
theorem ColPut.box {A' B' : Option Addr} {c' d' g : Nat} {t : TypeId} {cs : Array Value} {KS' : List (List UInt8)} (h : ColAt w base gk A c B d KS) (hp : ColPut w w' base gk A B A' c' B' d' KS') (hW : Whole w g t cs) (h1 : t ≠ 87) (h2 : t ≠ 5) (h3 : t ≠ 228) : Whole w' g t cs := by
  refine hW.keeps hp.keeps ?_
  rintro (h4 | h4 | h4)
  · exact hW.differ h.blk h1 h4
  · have := own_far h.buf hW (Ne.symm h2); rw [ownBlock_slice] at this; exact this h4
  · have := own_far h.pos hW (Ne.symm h3); rw [ownBlock_slice] at this; exact this h4
end
set_option maxRecDepth 100000 in
theorem newMap (w : World) (p q : Value) :
    Calls Tryz.prog 58 #[.iface 84 p, .iface 84 q] w fun e w' => e = .returned (.pointer (some ⟨w.heap.size, 0, none⟩)) ∧ w' = w.alloc (.cells #[.slice none 0 0, .iface 84 p, .iface 84 q] 188) := by
  go_enter Tryz.func58, Tryz.ntmps58
  go_wp2_with fail
  go_ret
  exact ⟨rfl, rfl⟩
def MapsNew (w : World) (e : Ending) (w' : World) : Prop := ∃ gm gk gv, e = .returned (.pointer (some ⟨gm, 0, none⟩)) ∧ Keeps (fun _ => False) w w' ∧ MapAt w' w.heap.size gm gk gv none 0 0 none 0 none 0 none 0 none 0 [] [] []
set_option maxRecDepth 100000 in
set_option maxHeartbeats 1000000 in
theorem mapsNew (w : World) :
    Calls Tryz.prog 27 #[] w fun e w' => MapsNew w e w' := by
  have hc1 := colNew w (Nat.le_refl _)
  have K1 := (Keeps.refl (fun _ => False) w).alloc (.cells #[.slice none 0 0, .slice none 0 0] 87)
  have hs1 : (World.heap (w.alloc (.cells #[.slice none 0 0, .slice none 0 0] 87))).size = w.heap.size + 1 := by simp
  have hc2 := colNew (w.alloc (.cells #[.slice none 0 0, .slice none 0 0] 87)) K1.size
  rw [hs1] at hc2
  have K2 := (Keeps.refl (fun _ => False) (w.alloc (.cells #[.slice none 0 0, .slice none 0 0] 87))).alloc (.cells #[.slice none 0 0, .slice none 0 0] 87)
  have hc12 := hc1.new K2
  have K12 := K1.trans K2 (fun _ _ h => h)
  have HN := Lib.hid (fun w p q => newMap w p q)
  have H1 := Lib.hid hc12
  have H2 := Lib.hid hc2
  have HK := Lib.hid K12
  have hs2 : (World.heap ((w.alloc (.cells #[.slice none 0 0, .slice none 0 0] 87)).alloc (.cells #[.slice none 0 0, .slice none 0 0] 87))).size = w.heap.size + 1 + 1 := by simp
  have HS2 := Lib.hid hs2
  clear hc1 K1 hs1 hc2 K2 hc12 K12 hs2
  go_enter Tryz.func27, Tryz.ntmps27
  go_wp2_with fail
  refine (HN.out _ _ _).mono ?_
  rintro e w3 ⟨rfl, rfl⟩
  go_wp2_with fail
  go_ret
  have K3 := (Keeps.refl (fun _ => False) ((w.alloc (.cells #[.slice none 0 0, .slice none 0 0] 87)).alloc (.cells #[.slice none 0 0, .slice none 0 0] 87))).alloc (.cells #[.slice none 0 0, .iface 84 (.pointer (some ⟨w.heap.size, 0, none⟩)), .iface 84 (.pointer (some ⟨w.heap.size + 1, 0, none⟩))] 188)
  have h := Whole.new ((w.alloc (.cells #[.slice none 0 0, .slice none 0 0] 87)).alloc (.cells #[.slice none 0 0, .slice none 0 0] 87)) 188 #[.slice none 0 0, .iface 84 (.pointer (some ⟨w.heap.size, 0, none⟩)), .iface 84 (.pointer (some ⟨w.heap.size + 1, 0, none⟩))]
  rw [HS2.out] at h
  refine ⟨w.heap.size + 1 + 1, w.heap.size, w.heap.size + 1, rfl, HK.out.trans K3 (fun _ _ h => h), ⟨h, ⟨rfl, .inl ⟨rfl, rfl⟩⟩, H1.out.new K3, H2.out.new K3, ?_, by omega⟩⟩
  rintro k (h1 | h1 | h1) (h2 | h2 | h2)
  · omega
  · cases h2
  · cases h2
  · cases h1
  · cases h1
  · cases h1
  · cases h1
  · cases h1
  · cases h1
end Go.Proofs.YtkgjchfbbpabpaaGreat
