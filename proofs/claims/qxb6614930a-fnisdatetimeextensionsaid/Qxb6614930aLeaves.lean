/-
  THE CONTRACTS of the leaves of seat b6614930a.
-/
import Derived.Test.Qxb6614930aRows
import Derived.Test.Qxb6614930aPlain
import Derived.WalkKit
import Derived.WalkSpells
import Derived.Outline
import Derived.Deep.QuietTactic
import Derived.BigQuiet
namespace Go.Proofs.Qxb6614930a
open Go.RowKit
set_option linter.unusedVariables false

theorem hide {p : Prop} (h : p) : Hid p := h

theorem ret_bool {a b : Bool} (h : a = b) : Ending.returned (.bool a) = .returned (.bool b) := by rw [h]
theorem ret_int {k : IntKind} {a b : Int} (h : a = b) : Ending.returned (.int k a) = .returned (.int k b) := by rw [h]

theorem zzBlank_any (c : Int) (w : World) : Calls Try.prog 26 #[.int .u8 c] w fun e w' => e = .returned (.bool (blankB c)) ∧ w' = w := by
  go_enter Try.func26, Try.ntmps26
  go_wp2
  all_goals (go_ret; refine ⟨ret_bool ?_, rfl⟩; rw [Bool.eq_iff_iff]; simp [blankB]; try omega)

theorem isDigit_any (c : Int) (w : World) : Calls Try.prog 33 #[.int .u8 c] w fun e w' => e = .returned (.bool (digB c)) ∧ w' = w := by
  go_enter Try.func33, Try.ntmps33
  go_wp2
  all_goals (go_ret; refine ⟨ret_bool ?_, rfl⟩; rw [Bool.eq_iff_iff]; simp [digB]; try omega)

theorem zzWordByte_any (c : Int) (w : World) : Calls Try.prog 19 #[.int .u8 c] w fun e w' => e = .returned (.bool (wordB c)) ∧ w' = w := by
  go_enter Try.func19, Try.ntmps19
  go_wp2
  all_goals (go_ret; refine ⟨ret_bool ?_, rfl⟩; rw [Bool.eq_iff_iff]; simp_all [wordB]; try omega)

theorem isBareKeyByte_any (c : Int) (w : World) : Calls Try.prog 31 #[.int .u8 c] w fun e w' => e = .returned (.bool (bareB c)) ∧ w' = w := by
  go_enter Try.func31, Try.ntmps31
  go_wp2
  all_goals (go_ret; refine ⟨ret_bool ?_, rfl⟩; rw [Bool.eq_iff_iff]; simp_all [bareB]; try omega)

/-! ### zzAllBlank, zzAllWord, isDigits: a loop over a string that asks a byte's predicate -/
theorem allB_no {f : Int → Bool} {s : ByteArray} {k : Nat} (hk : k < s.size) (h : f (at_ s k) = false) : allB f s = false := by
  unfold allB
  rw [decide_eq_false_iff_not]
  intro g; have := g k hk; rw [h] at this; cases this
theorem allB_yes {f : Int → Bool} {s : ByteArray} (h : ∀ k, k < s.size → f (at_ s k) = true) : allB f s = true := by
  unfold allB
  rw [decide_eq_true_iff]; exact h

set_option maxHeartbeats 400000 in
theorem zzAllBlank_any (s : ByteArray) (w : World) (hs : s.size ≤ maxLen) : Calls Try.prog 11 #[.string s] w fun e w' => e = .returned (.bool (allB blankB s)) ∧ w' = w := by
  unfold maxLen at hs
  go_enter Try.func11, Try.ntmps11
  go_wp2
  go_loop [3] (fun i => ∃ k : Nat, k ≤ s.size ∧ i = .int .i64 k ∧ ∀ j, j < k → blankB (at_ s j) = true) (fun i => s.size - (intOf i).toNat)
  case atStart => exact ⟨0, Nat.zero_le _, rfl, fun j hj => absurd hj (Nat.not_lt_zero j)⟩
  case round =>
    obtain ⟨k, hk, rfl, hall⟩ := hrel
    have HA := hide hall
    clear hall
    by_cases hlt : k < s.size
    · cases hb : blankB (s[k].toNat : Int)
      · go_wp2_with (go_at_call 26; refine (zzBlank_any _ _).mono ?_; rintro e w' ⟨rfl, rfl⟩)
        go_ret
        exact ⟨ret_bool (allB_no hlt (by rw [at_eq _ _ hlt]; exact hb)).symm, rfl⟩
      · go_wp2_with (go_at_call 26; refine (zzBlank_any _ _).mono ?_; rintro e w' ⟨rfl, rfl⟩)
        go_round
        case rel =>
          refine ⟨k + 1, by omega, by go_num, fun j hj => ?_⟩
          by_cases c : j < k
          · exact HA.out j c
          · obtain rfl : j = k := by omega
            rw [at_eq _ _ hlt]; exact hb
        case measure => simp [intOf]; omega
    · go_wp2
      go_ret
      exact ⟨ret_bool (allB_yes fun j hj => HA.out j (by omega)).symm, rfl⟩

set_option maxHeartbeats 400000 in
theorem zzAllWord_any (s : ByteArray) (w : World) (hs : s.size ≤ maxLen) : Calls Try.prog 16 #[.string s] w fun e w' => e = .returned (.bool (allB wordB s)) ∧ w' = w := by
  unfold maxLen at hs
  go_enter Try.func16, Try.ntmps16
  go_wp2
  go_loop [3] (fun i => ∃ k : Nat, k ≤ s.size ∧ i = .int .i64 k ∧ ∀ j, j < k → wordB (at_ s j) = true) (fun i => s.size - (intOf i).toNat)
  case atStart => exact ⟨0, Nat.zero_le _, rfl, fun j hj => absurd hj (Nat.not_lt_zero j)⟩
  case round =>
    obtain ⟨k, hk, rfl, hall⟩ := hrel
    have HA := hide hall
    clear hall
    by_cases hlt : k < s.size
    · cases hb : wordB (s[k].toNat : Int)
      · go_wp2_with (go_at_call 19; refine (zzWordByte_any _ _).mono ?_; rintro e w' ⟨rfl, rfl⟩)
        go_ret
        exact ⟨ret_bool (allB_no hlt (by rw [at_eq _ _ hlt]; exact hb)).symm, rfl⟩
      · go_wp2_with (go_at_call 19; refine (zzWordByte_any _ _).mono ?_; rintro e w' ⟨rfl, rfl⟩)
        go_round
        case rel =>
          refine ⟨k + 1, by omega, by go_num, fun j hj => ?_⟩
          by_cases c : j < k
          · exact HA.out j c
          · obtain rfl : j = k := by omega
            rw [at_eq _ _ hlt]; exact hb
        case measure => simp [intOf]; omega
    · go_wp2
      go_ret
      exact ⟨ret_bool (allB_yes fun j hj => HA.out j (by omega)).symm, rfl⟩

theorem stopB_end {f : Int → Bool} {s : ByteArray} : stopB f s s.size = true := by simp [stopB]
theorem zzStopsBlank_any (s : ByteArray) (q : Nat) (w : World) (hs : s.size ≤ maxLen) (hq : q ≤ s.size) : Calls Try.prog 12 #[.string s, .int .i64 q] w fun e w' => e = .returned (.bool (stopB blankB s q)) ∧ w' = w := by
  unfold maxLen at hs
  by_cases hlt : q < s.size
  · have h0 : ((q : Int) == (s.size : Int)) = false := by simp; omega
    go_enter Try.func12, Try.ntmps12
    go_wp2_with (go_at_call 26; refine (zzBlank_any _ _).mono ?_; rintro e w' ⟨rfl, rfl⟩)
    go_ret
    refine ⟨ret_bool ?_, rfl⟩
    rw [← at_eq _ _ hlt]
    unfold stopB
    cases hb : blankB (at_ s q) <;> simp <;> omega
  · obtain rfl : q = s.size := by omega
    go_enter Try.func12, Try.ntmps12
    go_wp2_with (go_at_call 26; refine (zzBlank_any _ _).mono ?_; rintro e w' ⟨rfl, rfl⟩)
    go_ret
    exact ⟨ret_bool (by simp [stopB]), rfl⟩

theorem zzStopsWord_any (s : ByteArray) (q : Nat) (w : World) (hs : s.size ≤ maxLen) (hq : q ≤ s.size) : Calls Try.prog 17 #[.string s, .int .i64 q] w fun e w' => e = .returned (.bool (stopB wordB s q)) ∧ w' = w := by
  unfold maxLen at hs
  by_cases hlt : q < s.size
  · have h0 : ((q : Int) == (s.size : Int)) = false := by simp; omega
    go_enter Try.func17, Try.ntmps17
    go_wp2_with (go_at_call 19; refine (zzWordByte_any _ _).mono ?_; rintro e w' ⟨rfl, rfl⟩)
    go_ret
    refine ⟨ret_bool ?_, rfl⟩
    rw [← at_eq _ _ hlt]
    unfold stopB
    cases hb : wordB (at_ s q) <;> simp <;> omega
  · obtain rfl : q = s.size := by omega
    go_enter Try.func17, Try.ntmps17
    go_wp2_with (go_at_call 19; refine (zzWordByte_any _ _).mono ?_; rintro e w' ⟨rfl, rfl⟩)
    go_ret
    exact ⟨ret_bool (by simp [stopB]), rfl⟩

end Go.Proofs.Qxb6614930a
