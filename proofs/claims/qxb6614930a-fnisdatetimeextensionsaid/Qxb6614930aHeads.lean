/-
  isDigits, isDatetime, zzYearHead, zzHourHead.
-/
import Derived.Test.Qxb6614930aDates
namespace Go.Proofs.Qxb6614930a
open Go.RowKit
set_option linter.unusedVariables false

set_option maxHeartbeats 400000 in
theorem isDigits_any (s : ByteArray) (w : World) (h0 : 0 < s.size) (hs : s.size ≤ 1000) : Calls Try.prog 32 #[.string s] w fun e w' => e = .returned (.bool (allB digB s)) ∧ w' = w := by
  go_enter Try.func32, Try.ntmps32
  go_wp2
  go_loop [3] (fun i => ∃ k : Nat, k ≤ s.size ∧ i = .int .i64 k ∧ ∀ j, j < k → digB (at_ s j) = true) (fun i => s.size - (intOf i).toNat)
  case atStart => exact ⟨0, Nat.zero_le _, rfl, fun j hj => absurd hj (Nat.not_lt_zero j)⟩
  case round =>
    obtain ⟨k, hk, rfl, hall⟩ := hrel
    have HA := hide hall
    clear hall
    by_cases hlt : k < s.size
    · cases hb : digB (s[k].toNat : Int)
      · go_wp2_with (go_at_call 33; refine (isDigit_any _ _).mono ?_; rintro e w' ⟨rfl, rfl⟩)
        go_ret
        exact ⟨ret_bool (allB_no hlt (by rw [at_eq _ _ hlt]; exact hb)).symm, rfl⟩
      · go_wp2_with (go_at_call 33; refine (isDigit_any _ _).mono ?_; rintro e w' ⟨rfl, rfl⟩)
        go_round
        case rel =>
          refine ⟨k + 1, by omega, by go_num, fun j hj => ?_⟩
          by_cases c : j < k
          · exact HA.out j c
          · obtain rfl : j = k := by omega
            rw [at_eq _ _ hlt]; exact hb
        case measure => simp [intOf]; omega
    · go_wp2
      go_ret
      refine ⟨ret_bool ?_, rfl⟩
      rw [allB_yes fun j hj => HA.out j (by omega), ByteArray.toList_eq]
      have e0 : s.data.toList ≠ [] := by
        intro e
        have hsz : s.data.toList.length = s.size := rfl
        rw [e, List.length_nil] at hsz
        omega
      cases hd : s.data.toList with
      | nil => exact absurd hd e0
      | cons a l => rfl

def yearB (s : ByteArray) : Bool := decide (4 < s.size) && allB digB (s.extract 0 4) && decide (at_ s 4 = 45)
def hourB (s : ByteArray) : Bool := decide (2 < s.size) && allB digB (s.extract 0 2) && decide (at_ s 2 = 58)

theorem digits_head (s : ByteArray) (k : Nat) (h0 : 0 < k) (hk : k ≤ s.size) (h1 : k ≤ 1000) (w : World) : Calls Try.prog 32 #[.string (s.extract 0 k)] w fun e w' => e = .returned (.bool (allB digB (s.extract 0 k))) ∧ w' = w :=
  isDigits_any (s.extract 0 k) w (by rw [ByteArray.size_extract]; omega) (by rw [ByteArray.size_extract]; omega)

set_option maxHeartbeats 800000 in
theorem isDatetime_any (s : ByteArray) (w : World) (hs : s.size ≤ 2000000) : Calls Try.prog 28 #[.string s] w fun e w' => e = .returned (.bool (yearB s || hourB s)) ∧ w' = w := by
  by_cases h2 : 2 < s.size
  · have HE2 : Hid (at_ s 2 = (s[2].toNat : Int)) := at_eq s 2 h2
    by_cases h4 : 4 < s.size
    · have HE4 : Hid (at_ s 4 = (s[4].toNat : Int)) := at_eq s 4 h4
      go_enter Try.func28, Try.ntmps28
      go_wp2_with fail
      refine (digits_head s 4 (by omega) (by omega) (by omega) _).mono ?_
      rintro e w' ⟨rfl, rfl⟩
      obtain ⟨d4, hd4⟩ : ∃ d4, d4 = allB digB (s.extract 0 4) := ⟨_, rfl⟩
      rw [← hd4]
      have HD4 := hide hd4
      clear hd4
      obtain ⟨d2, hd2⟩ : ∃ d2, d2 = allB digB (s.extract 0 2) := ⟨_, rfl⟩
      have hcall : ∀ w, Calls Try.prog 32 #[.string (s.extract 0 2)] w fun e w' => e = .returned (.bool d2) ∧ w' = w := fun w => by
        rw [hd2]; exact digits_head s 2 (by omega) (by omega) (by omega) w
      have HC := hide hcall
      have HD2 := hide hd2
      clear hd2 hcall
      have HY : Hid (yearB s = (d4 && ((s[4].toNat : Int) == 45))) := by
        show yearB s = (d4 && ((s[4].toNat : Int) == 45))
        unfold yearB; rw [← HD4.out, HE4.out]; simp [h4]; rfl
      have HH : Hid (hourB s = (d2 && ((s[2].toNat : Int) == 58))) := by
        show hourB s = (d2 && ((s[2].toNat : Int) == 58))
        unfold hourB; rw [← HD2.out, HE2.out]; simp [h2]; rfl
      clear HD4 HD2 HE2 HE4
      cases d4 <;> cases d2
      all_goals
        go_wp2_with (go_at_call 32; refine (HC.out _).mono ?_; rintro e w' ⟨rfl, rfl⟩)
        all_goals (go_ret; refine ⟨ret_bool ?_, rfl⟩; rw [HY.out, HH.out]; try simp_all)
    · go_enter Try.func28, Try.ntmps28
      go_wp2_with fail
      refine (digits_head s 2 (by omega) (by omega) (by omega) _).mono ?_
      rintro e w' ⟨rfl, rfl⟩
      obtain ⟨d2, hd2⟩ : ∃ d2, d2 = allB digB (s.extract 0 2) := ⟨_, rfl⟩
      rw [← hd2]
      have HD2 := hide hd2
      clear hd2
      have HY : Hid (yearB s = false) := by
        show yearB s = false
        unfold yearB; simp [h4]
      have HH : Hid (hourB s = (d2 && ((s[2].toNat : Int) == 58))) := by
        show hourB s = (d2 && ((s[2].toNat : Int) == 58))
        unfold hourB; rw [← HD2.out, HE2.out]; simp [h2]; rfl
      clear HD2 HE2
      cases d2
      all_goals
        go_wp2
        all_goals (go_ret; refine ⟨ret_bool ?_, rfl⟩; rw [HY.out, HH.out]; try simp_all)
  · have HY : Hid (yearB s = false) := by
      show yearB s = false
      unfold yearB; simp; omega
    have HH : Hid (hourB s = false) := by
      show hourB s = false
      unfold hourB; simp [h2]
    go_enter Try.func28, Try.ntmps28
    go_wp2
    all_goals (go_ret; refine ⟨ret_bool ?_, rfl⟩; rw [HY.out, HH.out]; try simp_all)

/-! ### The heads: a number padded back to the text it was read from -/
theorem bytes_ext {a b : ByteArray} (h0 : a.size = b.size) (h : ∀ k, k < a.size → at_ a k = at_ b k) : a = b := by
  apply ByteArray.ext_getElem h0
  intro i h1 h2
  have e := h i h1
  rw [at_eq _ _ h1, at_eq _ _ h2] at e
  exact UInt8.toNat_inj.1 (by omega)

theorem at_strOfNums (xs : List Int) (k : Nat) (hk : k < xs.length) (h0 : 0 ≤ xs[k]) (h1 : xs[k] ≤ 255) : at_ (strOfNums xs) k = xs[k] := by
  unfold at_
  rw [strOfNums_data, List.getD_eq_getElem?_getD, List.getElem?_map, List.getElem?_eq_getElem hk]
  simp only [Option.map_some, Option.getD_some]
  rw [UInt8.toNat_ofNat_of_lt' (by show xs[k].toNat < 256; omega)]
  omega

theorem numAt2 (u : ByteArray) : numAt u 2 = (at_ u 0 - 48) * 10 + (at_ u 1 - 48) := by simp [numAt]
theorem numAt4 (u : ByteArray) : numAt u 4 = (((at_ u 0 - 48) * 10 + (at_ u 1 - 48)) * 10 + (at_ u 2 - 48)) * 10 + (at_ u 3 - 48) := by simp [numAt]

theorem allB_dig {u : ByteArray} (h : allB digB u = true) (k : Nat) (hk : k < u.size) : 48 ≤ at_ u k ∧ at_ u k ≤ 57 := by
  unfold allB at h
  rw [decide_eq_true_iff] at h
  have := h k hk
  unfold digB at this
  rwa [decide_eq_true_iff] at this

theorem dig_mk {c : Int} (h : 48 ≤ c ∧ c ≤ 57) : digB c = true := by unfold digB; rw [decide_eq_true_iff]; exact h

theorem pad2_yes (u : ByteArray) (hu : u.size = 2) (h : allB digB u = true) : 0 ≤ numAt u 2 ∧ numAt u 2 ≤ 99 ∧ strOfNums [48 + numAt u 2 / 10 % 10, 48 + numAt u 2 % 10] = u := by
  have b0 := allB_dig h 0 (by omega); have b1 := allB_dig h 1 (by omega)
  have e := numAt2 u
  refine ⟨by omega, by omega, bytes_ext (by rw [strOfNums_size, hu]; rfl) ?_⟩
  intro k hk
  rw [strOfNums_size] at hk
  match k, hk with
  | 0, hk => rw [at_strOfNums _ 0 (by simp) (by simp; omega) (by simp; omega)]; simp; omega
  | 1, hk => rw [at_strOfNums _ 1 (by simp) (by simp; omega) (by simp; omega)]; simp; omega
theorem pad2_back (u : ByteArray) (n : Int) (hu : u.size = 2) (h : strOfNums [48 + n / 10 % 10, 48 + n % 10] = u) : allB digB u = true := by
  rw [← h]
  refine allB_yes fun k hk => ?_
  rw [strOfNums_size] at hk
  match k, hk with
  | 0, hk => rw [at_strOfNums _ 0 (by simp) (by simp; omega) (by simp; omega)]; exact dig_mk (by simp; omega)
  | 1, hk => rw [at_strOfNums _ 1 (by simp) (by simp; omega) (by simp; omega)]; exact dig_mk (by simp; omega)

theorem pad4_yes (u : ByteArray) (hu : u.size = 4) (h : allB digB u = true) : 0 ≤ numAt u 4 ∧ numAt u 4 ≤ 9999 ∧ strOfNums [48 + numAt u 4 / 10 / 10 / 10 % 10, 48 + numAt u 4 / 10 / 10 % 10, 48 + numAt u 4 / 10 % 10, 48 + numAt u 4 % 10] = u := by
  have b0 := allB_dig h 0 (by omega); have b1 := allB_dig h 1 (by omega); have b2 := allB_dig h 2 (by omega); have b3 := allB_dig h 3 (by omega)
  have e := numAt4 u
  refine ⟨by omega, by omega, bytes_ext (by rw [strOfNums_size, hu]; rfl) ?_⟩
  intro k hk
  rw [strOfNums_size] at hk
  match k, hk with
  | 0, hk => rw [at_strOfNums _ 0 (by simp) (by simp; omega) (by simp; omega)]; simp; omega
  | 1, hk => rw [at_strOfNums _ 1 (by simp) (by simp; omega) (by simp; omega)]; simp; omega
  | 2, hk => rw [at_strOfNums _ 2 (by simp) (by simp; omega) (by simp; omega)]; simp; omega
  | 3, hk => rw [at_strOfNums _ 3 (by simp) (by simp; omega) (by simp; omega)]; simp; omega
theorem pad4_back (u : ByteArray) (n : Int) (hu : u.size = 4) (h : strOfNums [48 + n / 10 / 10 / 10 % 10, 48 + n / 10 / 10 % 10, 48 + n / 10 % 10, 48 + n % 10] = u) : allB digB u = true := by
  rw [← h]
  refine allB_yes fun k hk => ?_
  rw [strOfNums_size] at hk
  match k, hk with
  | 0, hk => rw [at_strOfNums _ 0 (by simp) (by simp; omega) (by simp; omega)]; exact dig_mk (by simp; omega)
  | 1, hk => rw [at_strOfNums _ 1 (by simp) (by simp; omega) (by simp; omega)]; exact dig_mk (by simp; omega)
  | 2, hk => rw [at_strOfNums _ 2 (by simp) (by simp; omega) (by simp; omega)]; exact dig_mk (by simp; omega)
  | 3, hk => rw [at_strOfNums _ 3 (by simp) (by simp; omega) (by simp; omega)]; exact dig_mk (by simp; omega)
end Go.Proofs.Qxb6614930a
