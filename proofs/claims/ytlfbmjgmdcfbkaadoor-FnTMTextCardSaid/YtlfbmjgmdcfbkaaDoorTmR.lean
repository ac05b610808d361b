/- Times of day: what their parts are read as. Conditions: numbers of the sizes named. -/
import Derived.Test.YtlfbmjgmdcfbkaaDoorTmP
import Derived.Test.YtlfbmjgmdcfbkaaDoorShelf
import Derived.RegionTactic
namespace Go.Proofs.YtlfbmjgmdcfbkaaDoor
open Go.RowKit Go.Lib
set_option linter.unusedVariables false
theorem decFrom_app : ∀ (a b : List UInt8) (acc : Nat), Lib.decFrom acc (a ++ b) = (Lib.decFrom acc a).bind fun x => Lib.decFrom x b
  | [], b, acc => rfl
  | c :: a, b, acc => by
    simp only [List.cons_append, Lib.decFrom]
    cases Lib.digitVal c with
    | none => rfl
    | some d => exact decFrom_app a b _
theorem digitVal_dg {k : Nat} (h : k < 10) : Lib.digitVal (dg k) = some k := by
  rw [Lib.digitVal, dg_toNat h, if_pos ⟨by omega, by omega⟩]
  congr 1
  omega
theorem decFrom_digs : ∀ k n acc, Lib.decFrom acc (digs k n) = some (acc * 10 ^ k + n % 10 ^ k)
  | 0, n, acc => by simp [digs, Lib.decFrom, Nat.mod_one]
  | k + 1, n, acc => by
    rw [digs, decFrom_app, decFrom_digs k (n / 10) acc, Option.bind_some, Lib.decFrom, digitVal_dg (Nat.mod_lt _ (by omega))]
    simp only [Lib.decFrom]
    congr 1
    have h1 : n % 10 ^ (k + 1) = n % 10 + 10 * (n / 10 % 10 ^ k) := by rw [Nat.pow_succ, Nat.mul_comm, Nat.mod_mul]
    rw [h1, Nat.pow_succ, Nat.add_mul, Nat.mul_assoc]
    omega
theorem decFrom_zeros : ∀ m acc, Lib.decFrom acc (List.replicate m 48) = some (acc * 10 ^ m)
  | 0, acc => by simp [Lib.decFrom]
  | m + 1, acc => by
    rw [List.replicate_succ, Lib.decFrom, show Lib.digitVal 48 = some 0 by decide]
    simp only []
    rw [decFrom_zeros m]
    congr 1
    rw [Nat.pow_succ, Nat.add_zero, Nat.mul_assoc, Nat.mul_comm 10]
theorem atoi_digs (l : List UInt8) (v : Nat) (h0 : 0 < l.length) (hl : l.length ≤ 18) (hd : ∀ x ∈ l, 48 ≤ x.toNat ∧ x.toNat ≤ 57) (h : Lib.decFrom 0 l = some v) : Lib.atoiAll l = .ok (v : Int) := by
  rw [Lib.atoiAll_short l hl]
  cases l with
  | nil => simp at h0
  | cons b r =>
    have hb := hd b (List.mem_cons_self ..)
    have n1 : (b == 45) = false := by
      cases hq : (b == 45) with
      | false => rfl
      | true => have := eq_of_beq hq; subst this; exact absurd hb.1 (by decide)
    have n2 : (b == 43) = false := by
      cases hq : (b == 43) with
      | false => rfl
      | true => have := eq_of_beq hq; subst this; exact absurd hb.1 (by decide)
    rw [Lib.atoi]
    simp only [n1, n2, Bool.false_eq_true, if_false]
    rw [Lib.decNat]
    simp only [List.isEmpty_cons, Bool.false_eq_true, if_false, h]
    rfl
theorem keeps_bytes {w w' : World} {u : TypeId} (h : w' = w ∨ ∃ t, w' = Lib.bytesWorld w u t) : Keeps (fun _ => False) w w' := by
  rcases h with rfl | ⟨t, rfl⟩
  · exact Keeps.refl _ _
  · exact Keeps.of_below (Lib.bytesWorld_below _ _ _) _
theorem ret_atoi (l : List UInt8) (v : Nat) (h0 : 0 < l.length) (hl : l.length ≤ 18) (hd : ∀ x ∈ l, 48 ≤ x.toNat ∧ x.toNat ≤ 57) (h : Lib.decFrom 0 l = some v) : Ret 18 #[.string (sOf l)] (.tuple #[.int .i64 (v : Int), .nilIface]) := fun w =>
  (Tryd.strconv_Atoi_ok (sOf l) (by rw [sOf_size]; omega) v (by simpa using atoi_digs l v h0 hl hd h) w).mono fun e w' h => ⟨h.1, keeps_bytes h.2⟩
theorem ret_parse (l : List UInt8) (v : Nat) (h0 : 0 < l.length) (hl : l.length ≤ 18) (hd : ∀ x ∈ l, 48 ≤ x.toNat ∧ x.toNat ≤ 57) (h : Lib.decFrom 0 l = some v) : Ret 19 #[.string (sOf l), .int .i64 10, .int .i64 64] (.tuple #[.int .i64 (v : Int), .nilIface]) := fun w =>
  (Tryd.strconv_ParseInt_10_at64_ok (sOf l) (by rw [sOf_size]; omega) v (by rw [Lib.parseIntB_64]; simpa using atoi_digs l v h0 hl hd h) w).mono fun e w' h => ⟨h.1, keeps_bytes h.2⟩
theorem idx_ne {a : List UInt8} {c : UInt8} {r : List UInt8} (h : ∀ x ∈ a, ¬ x = c) : ∀ j, j < a.length → ¬ (sOf (a ++ r)).extract j (j + 1) = sOf [c] := fun j hj =>
  ex_ne (by rw [List.length_append]; omega) (by rw [List.getElem_append_left hj]; exact h _ (List.getElem_mem hj))
theorem index_at (a r : List UInt8) (c : UInt8) (hl : (a ++ c :: r).length ≤ 1000) (h : ∀ x ∈ a, ¬ x = c) (w : World) :
    Calls Tryd.prog 24 #[.string (sOf (a ++ c :: r)), .string ⟨#[c]⟩] w fun e w' => e = .returned (.int .i64 a.length) ∧ w = w' :=
  zzIndexS_at w _ _ a.length rfl (by rw [sOf_size]; omega) (by rw [sOf_size, List.length_append, List.length_cons]; omega) (ex_at a r c) (idx_ne h)
theorem index_none (a : List UInt8) (c : UInt8) (hl : a.length ≤ 1000) (h : ∀ x ∈ a, ¬ x = c) (w : World) :
    Calls Tryd.prog 24 #[.string (sOf a), .string ⟨#[c]⟩] w fun e w' => e = .returned (.int .i64 (-1)) ∧ w = w' :=
  zzIndexS_none w _ _ rfl (by rw [sOf_size]; omega) (fun j hj => by have := idx_ne (r := []) h j (by rwa [sOf_size] at hj); rwa [List.append_nil] at this)
theorem to_at (a r : List UInt8) (c : UInt8) (w : World) : (Instr.slice 9 (.string (sOf (a ++ c :: r))) none (some (.int .i64 (a.length : Int))) none).run Tryd.prog w = .ok (.string (sOf a)) w := by
  rw [sl_to _ a.length _ rfl (by rw [sOf_size, List.length_append]; omega), ex_first]
theorem from_at (a r : List UInt8) (c : UInt8) (w : World) : (Instr.slice 9 (.string (sOf (a ++ c :: r))) (some (.int .i64 ((a.length : Int) + 1))) none none).run Tryd.prog w = .ok (.string (sOf r)) w := by
  rw [sl_from _ (a.length + 1) _ (by omega) (by rw [sOf_size, List.length_append, List.length_cons]; omega), ex_last]
theorem ret_cut (a r : List UInt8) (hl : (a ++ 46 :: r).length ≤ 1000) (h : ∀ x ∈ a, ¬ x = 46) : Ret 15 #[.string (sOf (a ++ 46 :: r)), .string ⟨#[46]⟩] (.tuple #[.string (sOf a), .string (sOf r), .bool true]) := fun w =>
  zzCutV w _ _ _ _ a.length (by rw [List.length_append] at hl; omega) rfl (index_at a r 46 hl h) (to_at a r 46) (from_at a r 46)
theorem ret_split (a b d : List UInt8) (hl : (a ++ 58 :: (b ++ 58 :: d)).length ≤ 1000) (ha : ∀ x ∈ a, ¬ x = 58) (hb : ∀ x ∈ b, ¬ x = 58) (hd : ∀ x ∈ d, ¬ x = 58) (w : World) :
    Calls Tryd.prog 16 #[.string (sOf (a ++ 58 :: (b ++ 58 :: d))), .string ⟨#[58]⟩] w fun e w' => ∃ A c, e = .returned (.slice A 3 c) ∧ w'.ownsRow w.heap.size 9 1 (.slice A 3 c) 3 [.string (sOf a), .string (sOf b), .string (sOf d)] ∧ Keeps (fun _ => False) w w' := by
  have h1 : (b ++ 58 :: d).length ≤ 1000 := by rw [List.length_append, List.length_cons] at hl; omega
  have h2 : d.length ≤ 1000 := by rw [List.length_append, List.length_cons] at h1; omega
  exact zzSplitV w _ _ _ _ _ _ a.length b.length (by rw [List.length_append] at hl; omega) (by rw [List.length_append] at h1; omega) rfl (index_at a _ 58 hl ha) (index_at b _ 58 h1 hb) (index_none d 58 h2 hd) (to_at a _ 58) (from_at a _ 58) (to_at b _ 58) (from_at b _ 58)
theorem digs_not {k n : Nat} {c : UInt8} (hc : ¬ (48 ≤ c.toNat ∧ c.toNat ≤ 57)) : ∀ x ∈ digs k n, ¬ x = c := fun x hx he => hc (he ▸ digs_digit k n x hx)
theorem tt_shape (n : Nat) : tt n = digs 2 (n / 3600) ++ 58 :: (digs 2 (n / 60 % 60) ++ 58 :: digs 2 (n % 60)) := by simp [tt]
theorem tt_not {n : Nat} : ∀ x ∈ tt n, ¬ x = (46 : UInt8) := by
  intro x hx
  rw [tt] at hx
  simp only [List.mem_append, List.mem_singleton] at hx
  rcases hx with (((h | rfl) | h) | rfl) | h
  · exact digs_not (by decide) x h
  · decide
  · exact digs_not (by decide) x h
  · decide
  · exact digs_not (by decide) x h
theorem dec2 {n : Nat} (h : n < 100) : Lib.decFrom 0 (digs 2 n) = some n := by rw [decFrom_digs]; simp; exact h
/-- A time of day with k digits behind the period. -/
theorem parse64 (w : World) (n k f : Nat) (hn : n < 360000) (hk : 0 < k) (hk9 : k ≤ 9) (hf : f < 10 ^ k) :
    Calls Tryd.prog 11 #[.string (sOf (tt n ++ 46 :: digs k f))] w fun e w' => e = .returned (.tuple #[.int .i64 ((n * 1000000000 + f * 10 ^ (9 - k) : Nat) : Int), .nilIface]) ∧ Keeps (fun _ => False) w w' := by
  have hf9 : f * 10 ^ (9 - k) < 1000000000 := by
    have : f * 10 ^ (9 - k) < 10 ^ k * 10 ^ (9 - k) := Nat.mul_lt_mul_of_pos_right hf (Nat.pow_pos (by omega))
    rwa [← Nat.pow_add, show k + (9 - k) = 9 by omega] at this
  have hlen : (tt n ++ 46 :: digs k f).length ≤ 1000 := by rw [List.length_append, List.length_cons, tt_size, digs_length]; omega
  have hsp := ret_split (digs 2 (n / 3600)) (digs 2 (n / 60 % 60)) (digs 2 (n % 60)) (by rw [← tt_shape, tt_size]; omega) (digs_not (by decide)) (digs_not (by decide)) (digs_not (by decide))
  rw [← tt_shape] at hsp
  have two : ∀ m, m < 100 → Ret 18 #[.string (sOf (digs 2 m))] (.tuple #[.int .i64 (m : Int), .nilIface]) := fun m hm => ret_atoi _ m (by rw [digs_length]; omega) (by rw [digs_length]; omega) (digs_digit 2 m) (dec2 hm)
  have hdd : ∀ x ∈ digs k f ++ List.replicate (9 - k) 48, 48 ≤ x.toNat ∧ x.toNat ≤ 57 := by
    intro x hx
    rcases List.mem_append.1 hx with h | h
    · exact digs_digit k f x h
    · rw [(List.mem_replicate.1 h).2]; decide
  have hdv : Lib.decFrom 0 (digs k f ++ List.replicate (9 - k) 48) = some (f * 10 ^ (9 - k)) := by
    rw [decFrom_app, decFrom_digs, Option.bind_some, decFrom_zeros, Nat.zero_mul, Nat.zero_add, Nat.mod_eq_of_lt hf]
  generalize f * 10 ^ (9 - k) = g at *
  refine parse64V w _ _ _ _ _ (sOf []) (digs k f) k (digs_length _ _) hk hk9 ((n / 3600 : Nat) : Int) ((n / 60 % 60 : Nat) : Int) ((n % 60 : Nat) : Int) (g : Int) (n : Int) ((n * 1000000000 : Nat) : Int) _ (ret_cut (tt n) _ hlen tt_not) hsp
    (two _ (by omega)) (two _ (by omega)) (two _ (by omega)) (ret_parse _ g (by rw [List.length_append, digs_length]; omega) (by rw [List.length_append, digs_length, List.length_replicate]; omega) hdd hdv) ?_ ?_ ?_ ?_ ?_ ?_
  · apply wrapI <;> omega
  · apply wrapI <;> omega
  · apply wrapI <;> omega
  · rw [show ((n / 3600 : Nat) : Int) * 3600 + ((n / 60 % 60 : Nat) : Int) * 60 + ((n % 60 : Nat) : Int) = (n : Int) by omega]
    apply wrapI <;> omega
  · rw [show (n : Int) * 1000000000 = ((n * 1000000000 : Nat) : Int) by omega]
    apply wrapI <;> omega
  · rw [show ((n * 1000000000 : Nat) : Int) + (g : Int) = ((n * 1000000000 + g : Nat) : Int) by omega]
    apply wrapI <;> omega
set_option maxRecDepth 10000 in
theorem tmParse64V (w : World) (s : ByteArray) (R : Int) (hp : Ret 11 #[.string s] (.tuple #[.int .i64 R, .nilIface])) :
    Calls Tryd.prog 6 #[.string s] w fun e w' => e = .returned (.tuple #[.int .i64 R, .bool true]) ∧ Keeps (fun _ => False) w w' := by
  have HP := Lib.hid hp
  clear hp
  go_enter Tryd.func6, Tryd.ntmps6
  go_wp2_with fail
  refine (HP.out _).mono ?_
  rintro e w1 ⟨rfl, K1⟩
  have K2 := K1.drew
  go_wp2_with fail
  all_goals
    go_region
    all_goals
      go_wp2_with fail
      go_ret2
      exact ⟨rfl, K2⟩
end Go.Proofs.YtlfbmjgmdcfbkaaDoor
