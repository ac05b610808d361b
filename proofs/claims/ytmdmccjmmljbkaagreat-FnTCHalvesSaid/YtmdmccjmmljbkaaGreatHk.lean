/- A row of words cut to its kind; columns by a kind's number. Conditions: words fit. -/
import Derived.Test.YtmdmccjmmljbkaaGreatHj
import Derived.Test.YtmdmccjmmljbkaaGreatW4
namespace Go.Proofs.YtmdmccjmmljbkaaGreat
open Go.RowKit Go.Lib
set_option linter.unusedVariables false
theorem hInfo64 : (Tryz.prog.info? 23).map (fun i => (i.zero, i.size, i.bytes)) = some (some (.int .u64 0), 1, 8) := by kernel_rfl
theorem qw_one (xs : List Nat) : ∀ u ∈ qw xs, u.oneCell' = true := by
  intro u hu
  obtain ⟨x, _, rfl⟩ := List.mem_map.1 hu
  rfl
def tcut9 (q : W4) : List Nat := [q.1]
set_option maxRecDepth 100000 in
set_option maxHeartbeats 2000000 in
theorem tcCut9 (w : World) (q : W4) : Calls Tryz.prog 9 #[.int .i64 9, .agg #[.int .u64 (q.1 : Int), .int .u64 (q.2.1 : Int), .int .u64 (q.2.2.1 : Int), .int .u64 (q.2.2.2 : Int)]] w fun e w' => ∃ A c, e = .returned (.slice A 1 c) ∧ w'.ownsRow w.heap.size 23 1 (.slice A 1 c) 1 (qw (tcut9 q)) ∧ Keeps (fun _ => False) w w' := by
  obtain ⟨i0, hi0, hz0, hz1, hz2⟩ := info_parts hInfo64
  have HW := Lib.hid (fun w => tcWords9 w)
  have HS := Lib.hid (fun w => tcSize9 w)
  have hb := (Whole.new w 24 #[.int .u64 (q.1 : Int), .int .u64 (q.2.1 : Int), .int .u64 (q.2.2.1 : Int), .int .u64 (q.2.2.2 : Int)]).alloc (.cells #[] 23)
  have HK := Lib.hid (((Keeps.refl (fun _ => False) w).alloc (.cells #[.int .u64 (q.1 : Int), .int .u64 (q.2.1 : Int), .int .u64 (q.2.2.1 : Int), .int .u64 (q.2.2.2 : Int)] 24)).alloc (.cells #[] 23))
  have hR : Rd ((w.alloc (.cells #[.int .u64 (q.1 : Int), .int .u64 (q.2.1 : Int), .int .u64 (q.2.2.1 : Int), .int .u64 (q.2.2.2 : Int)] 24)).alloc (.cells #[] 23)) 1 (some ⟨w.heap.size, 0, none⟩) 1 (qw [q.1]) := ⟨rfl, fun _ => ⟨_, rfl, hb.lt, fun j u hu => by
    rw [add_lit', Nat.zero_add, hb.cell j, ← Array.getElem?_toList]
    exact (List.getElem?_append_left (l₂ := [.int .u64 (q.2.1 : Int), .int .u64 (q.2.2.1 : Int), .int .u64 (q.2.2.2 : Int)]) (List.getElem?_eq_some_iff.1 hu).1).trans hu⟩⟩
  have ho : ((w.alloc (.cells #[.int .u64 (q.1 : Int), .int .u64 (q.2.1 : Int), .int .u64 (q.2.2.1 : Int), .int .u64 (q.2.2.2 : Int)] 24)).alloc (.cells #[] 23)).ownsRow w.heap.size 23 1 (.slice (some ⟨w.heap.size + 1, 0, none⟩) 0 0) 0 [] := by
    have := World.ownsRow_lit (base := w.heap.size) (e := 23) (size := 1) (w.alloc (.cells #[.int .u64 (q.1 : Int), .int .u64 (q.2.1 : Int), .int .u64 (q.2.2.1 : Int), .int .u64 (q.2.2.2 : Int)] 24)) #[] 0 (by rw [World.size_alloc]; omega) (by simp [maxLen]) rfl
    rw [World.size_alloc] at this
    exact this
  have hsz := HK.out.size
  go_enter Tryz.func9, Tryz.ntmps9
  go_wp2_with fail
  refine (HW.out _).mono ?_
  rintro e w1 ⟨rfl, rfl⟩
  go_wp2_with (
    at_builtin
    refine wpList_append_rd _ rfl (.tmp 7) (.tmp 10) _ rfl w.heap.size 23 i0 _ 1 8 Tryz.underlying44 hi0 hz0 hz1 hz2 rfl Nat.one_pos (some ⟨w.heap.size + 1, 0, none⟩) 0 0 [] rfl ho (some ⟨w.heap.size, 0, none⟩) 1 4 (qw [q.1]) rfl hR (qw_one _) (by simp only [maxLen]; omega) (by omega) hsz ?_
    intro A2 c2 w2 hown2 hg2 hat2
    have HO := Lib.hid hown2
    have HK2 := Lib.hid (HK.out.grown hg2 (fun i hi => .inr (by have hi : w.heap.size + 1 = i := Option.some.inj hi; omega)))
    clear hown2 hg2 hat2)
  refine (HS.out _).mono ?_
  rintro e w3 ⟨rfl, rfl⟩
  go_wp2_with fail
  go_ret
  exact ⟨A2, c2, rfl, HO.out, HK2.out⟩
def tcut10 (q : W4) : List Nat := [q.1, q.2.1]
set_option maxRecDepth 100000 in
set_option maxHeartbeats 2000000 in
theorem tcCut10 (w : World) (q : W4) : Calls Tryz.prog 9 #[.int .i64 10, .agg #[.int .u64 (q.1 : Int), .int .u64 (q.2.1 : Int), .int .u64 (q.2.2.1 : Int), .int .u64 (q.2.2.2 : Int)]] w fun e w' => ∃ A c, e = .returned (.slice A 2 c) ∧ w'.ownsRow w.heap.size 23 1 (.slice A 2 c) 2 (qw (tcut10 q)) ∧ Keeps (fun _ => False) w w' := by
  obtain ⟨i0, hi0, hz0, hz1, hz2⟩ := info_parts hInfo64
  have HW := Lib.hid (fun w => tcWords10 w)
  have HS := Lib.hid (fun w => tcSize10 w)
  have hb := (Whole.new w 24 #[.int .u64 (q.1 : Int), .int .u64 (q.2.1 : Int), .int .u64 (q.2.2.1 : Int), .int .u64 (q.2.2.2 : Int)]).alloc (.cells #[] 23)
  have HK := Lib.hid (((Keeps.refl (fun _ => False) w).alloc (.cells #[.int .u64 (q.1 : Int), .int .u64 (q.2.1 : Int), .int .u64 (q.2.2.1 : Int), .int .u64 (q.2.2.2 : Int)] 24)).alloc (.cells #[] 23))
  have hR : Rd ((w.alloc (.cells #[.int .u64 (q.1 : Int), .int .u64 (q.2.1 : Int), .int .u64 (q.2.2.1 : Int), .int .u64 (q.2.2.2 : Int)] 24)).alloc (.cells #[] 23)) 1 (some ⟨w.heap.size, 0, none⟩) 2 (qw [q.1, q.2.1]) := ⟨rfl, fun _ => ⟨_, rfl, hb.lt, fun j u hu => by
    rw [add_lit', Nat.zero_add, hb.cell j, ← Array.getElem?_toList]
    exact (List.getElem?_append_left (l₂ := [.int .u64 (q.2.2.1 : Int), .int .u64 (q.2.2.2 : Int)]) (List.getElem?_eq_some_iff.1 hu).1).trans hu⟩⟩
  have ho : ((w.alloc (.cells #[.int .u64 (q.1 : Int), .int .u64 (q.2.1 : Int), .int .u64 (q.2.2.1 : Int), .int .u64 (q.2.2.2 : Int)] 24)).alloc (.cells #[] 23)).ownsRow w.heap.size 23 1 (.slice (some ⟨w.heap.size + 1, 0, none⟩) 0 0) 0 [] := by
    have := World.ownsRow_lit (base := w.heap.size) (e := 23) (size := 1) (w.alloc (.cells #[.int .u64 (q.1 : Int), .int .u64 (q.2.1 : Int), .int .u64 (q.2.2.1 : Int), .int .u64 (q.2.2.2 : Int)] 24)) #[] 0 (by rw [World.size_alloc]; omega) (by simp [maxLen]) rfl
    rw [World.size_alloc] at this
    exact this
  have hsz := HK.out.size
  go_enter Tryz.func9, Tryz.ntmps9
  go_wp2_with fail
  refine (HW.out _).mono ?_
  rintro e w1 ⟨rfl, rfl⟩
  go_wp2_with (
    at_builtin
    refine wpList_append_rd _ rfl (.tmp 7) (.tmp 10) _ rfl w.heap.size 23 i0 _ 1 8 Tryz.underlying44 hi0 hz0 hz1 hz2 rfl Nat.one_pos (some ⟨w.heap.size + 1, 0, none⟩) 0 0 [] rfl ho (some ⟨w.heap.size, 0, none⟩) 2 4 (qw [q.1, q.2.1]) rfl hR (qw_one _) (by simp only [maxLen]; omega) (by omega) hsz ?_
    intro A2 c2 w2 hown2 hg2 hat2
    have HO := Lib.hid hown2
    have HK2 := Lib.hid (HK.out.grown hg2 (fun i hi => .inr (by have hi : w.heap.size + 1 = i := Option.some.inj hi; omega)))
    clear hown2 hg2 hat2)
  refine (HS.out _).mono ?_
  rintro e w3 ⟨rfl, rfl⟩
  go_wp2_with fail
  go_ret
  exact ⟨A2, c2, rfl, HO.out, HK2.out⟩
def tcut11 (q : W4) : List Nat := [q.1, q.2.1, q.2.2.1, q.2.2.2]
set_option maxRecDepth 100000 in
set_option maxHeartbeats 2000000 in
theorem tcCut11 (w : World) (q : W4) : Calls Tryz.prog 9 #[.int .i64 11, .agg #[.int .u64 (q.1 : Int), .int .u64 (q.2.1 : Int), .int .u64 (q.2.2.1 : Int), .int .u64 (q.2.2.2 : Int)]] w fun e w' => ∃ A c, e = .returned (.slice A 4 c) ∧ w'.ownsRow w.heap.size 23 1 (.slice A 4 c) 4 (qw (tcut11 q)) ∧ Keeps (fun _ => False) w w' := by
  obtain ⟨i0, hi0, hz0, hz1, hz2⟩ := info_parts hInfo64
  have HW := Lib.hid (fun w => tcWords11 w)
  have HS := Lib.hid (fun w => tcSize11 w)
  have hb := (Whole.new w 24 #[.int .u64 (q.1 : Int), .int .u64 (q.2.1 : Int), .int .u64 (q.2.2.1 : Int), .int .u64 (q.2.2.2 : Int)]).alloc (.cells #[] 23)
  have HK := Lib.hid (((Keeps.refl (fun _ => False) w).alloc (.cells #[.int .u64 (q.1 : Int), .int .u64 (q.2.1 : Int), .int .u64 (q.2.2.1 : Int), .int .u64 (q.2.2.2 : Int)] 24)).alloc (.cells #[] 23))
  have hR : Rd ((w.alloc (.cells #[.int .u64 (q.1 : Int), .int .u64 (q.2.1 : Int), .int .u64 (q.2.2.1 : Int), .int .u64 (q.2.2.2 : Int)] 24)).alloc (.cells #[] 23)) 1 (some ⟨w.heap.size, 0, none⟩) 4 (qw [q.1, q.2.1, q.2.2.1, q.2.2.2]) := ⟨rfl, fun _ => ⟨_, rfl, hb.lt, fun j u hu => by
    rw [add_lit', Nat.zero_add, hb.cell j, ← Array.getElem?_toList]
    exact (List.getElem?_append_left (l₂ := []) (List.getElem?_eq_some_iff.1 hu).1).trans hu⟩⟩
  have ho : ((w.alloc (.cells #[.int .u64 (q.1 : Int), .int .u64 (q.2.1 : Int), .int .u64 (q.2.2.1 : Int), .int .u64 (q.2.2.2 : Int)] 24)).alloc (.cells #[] 23)).ownsRow w.heap.size 23 1 (.slice (some ⟨w.heap.size + 1, 0, none⟩) 0 0) 0 [] := by
    have := World.ownsRow_lit (base := w.heap.size) (e := 23) (size := 1) (w.alloc (.cells #[.int .u64 (q.1 : Int), .int .u64 (q.2.1 : Int), .int .u64 (q.2.2.1 : Int), .int .u64 (q.2.2.2 : Int)] 24)) #[] 0 (by rw [World.size_alloc]; omega) (by simp [maxLen]) rfl
    rw [World.size_alloc] at this
    exact this
  have hsz := HK.out.size
  go_enter Tryz.func9, Tryz.ntmps9
  go_wp2_with fail
  refine (HW.out _).mono ?_
  rintro e w1 ⟨rfl, rfl⟩
  go_wp2_with (
    at_builtin
    refine wpList_append_rd _ rfl (.tmp 7) (.tmp 10) _ rfl w.heap.size 23 i0 _ 1 8 Tryz.underlying44 hi0 hz0 hz1 hz2 rfl Nat.one_pos (some ⟨w.heap.size + 1, 0, none⟩) 0 0 [] rfl ho (some ⟨w.heap.size, 0, none⟩) 4 4 (qw [q.1, q.2.1, q.2.2.1, q.2.2.2]) rfl hR (qw_one _) (by simp only [maxLen]; omega) (by omega) hsz ?_
    intro A2 c2 w2 hown2 hg2 hat2
    have HO := Lib.hid hown2
    have HK2 := Lib.hid (HK.out.grown hg2 (fun i hi => .inr (by have hi : w.heap.size + 1 = i := Option.some.inj hi; omega)))
    clear hown2 hg2 hat2)
  refine (HS.out _).mono ?_
  rintro e w3 ⟨rfl, rfl⟩
  go_wp2_with fail
  go_ret
  exact ⟨A2, c2, rfl, HO.out, HK2.out⟩
end Go.Proofs.YtmdmccjmmljbkaaGreat
