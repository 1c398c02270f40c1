/-
  zzYearHead, zzHourHead.
-/
import Derived.Test.Qxb6614930aHeads
import Derived.Deep.RegionHeld3
namespace Go.Proofs.Qxb6614930a
open Go.RowKit
set_option linter.unusedVariables false

theorem zzNumber_head2 (s u : ByteArray) (hu : u = s.extract 0 2) (hk : 2 ≤ s.size) (n : Int) (hn : n = numAt u 2) (w : World) : Calls Try.prog 29 #[.string (s.extract 0 2)] w fun e w' => e = .returned (.int .i64 n) ∧ w' = w := by
  rw [hn, ← hu]
  exact zzNumber2 u (by rw [hu, ByteArray.size_extract]; omega) w

theorem head2_eq (u v : ByteArray) (n : Int) (hn : n = numAt u 2) (hu : u.size = 2) (hv : v = strOfNums [48 + n / 10 % 10, 48 + n % 10]) : (v.toList == u.toList) = allB digB u := by
  cases h : allB digB u
  · rw [beq_eq_false_iff_ne]
    intro e
    rw [ByteArray.toList_eq, ByteArray.toList_eq] at e
    have hvu : v = u := Go.WideShapes.bytes_inj e
    have := pad2_back u n hu (by rw [← hv]; exact hvu)
    rw [h] at this; cases this
  · have := (pad2_yes u hu h).2.2
    rw [← hn, ← hv] at this
    rw [this]; simp
theorem head2_out (u : ByteArray) (n : Int) (hn : n = numAt u 2) (hu : u.size = 2) (h : ¬ (0 ≤ n ∧ n ≤ 99)) : allB digB u = false := by
  cases h' : allB digB u
  · rfl
  · have := pad2_yes u hu h'
    rw [← hn] at this
    exact absurd ⟨this.1, this.2.1⟩ h

set_option maxHeartbeats 800000 in
theorem zzHourHead_any (s : ByteArray) (w : World) (hs : s.size ≤ 2000000) : Calls Try.prog 23 #[.string s] w fun e w' => e = .returned (.bool (hourB s)) ∧ Grown w w' := by
  by_cases h4 : 2 < s.size
  · have HE4 : Hid (at_ s 2 = (s[2].toNat : Int)) := at_eq s 2 h4
    by_cases c4 : (s[2].toNat : Int) = 58
    · have d4 : ((s[2].toNat : Int) != 58) = false := by simpa using c4
      obtain ⟨u, hu⟩ : ∃ u, u = s.extract 0 2 := ⟨_, rfl⟩
      obtain ⟨n, hn⟩ : ∃ n, n = numAt u 2 := ⟨_, rfl⟩
      have hsz : u.size = 2 := by rw [hu, ByteArray.size_extract]; omega
      have HY : Hid (hourB s = allB digB u) := by
        show hourB s = allB digB u
        unfold hourB; rw [HE4.out, ← hu]; simp [h4, c4]
      have HC : Hid (∀ w, Calls Try.prog 29 #[.string (s.extract 0 2)] w fun e w' => e = .returned (.int .i64 n) ∧ w' = w) := zzNumber_head2 s u hu (by omega) n hn
      have HU : Hid (u = s.extract 0 2) := hu
      have HN : Hid (n = numAt u 2) := hn
      have HZ : Hid (u.size = 2) := hsz
      have i4 : (2 : Int) ≤ (s.size : Int) := by omega
      have i5 : 2 ≤ s.size := by omega
      clear hu hn hsz c4 HE4
      by_cases n0 : 0 ≤ n
      · by_cases n9 : n ≤ 99
        · obtain ⟨v, hv⟩ : ∃ v, v = strOfNums [48 + n / 10 % 10, 48 + n % 10] := ⟨_, rfl⟩
          have HV : Hid (v = strOfNums [48 + n / 10 % 10, 48 + n % 10]) := hv
          have HP : Hid (∀ w, Calls Try.prog 30 #[.int .i64 n, .int .i64 2] w fun e w' => e = .returned (.string v) ∧ Grown w w') := by rw [hv]; exact zzPad2 n n0 n9
          clear hv
          go_enter Try.func23, Try.ntmps23
          go_wp2_with (go_at_call 29; refine (HC.out _).mono ?_; rintro e w' ⟨rfl, rfl⟩)
          go_region_held3 (fun _ => True) (trivial) (first | (go_at_call 30; refine (HP.out _).mono ?_; rintro e w' ⟨rfl, hg⟩))
          all_goals go_wp2
          all_goals go_ret
          all_goals exact ⟨ret_bool (by rw [HY.out, ← HU.out]; exact head2_eq u v n HN.out HZ.out HV.out), hg⟩
        · have g9 : decide (n ≤ 99) = false := by simpa using n9
          have HF : Hid (hourB s = false) := by show hourB s = false; rw [HY.out]; exact head2_out u n HN.out HZ.out (by omega)
          clear n9
          go_enter Try.func23, Try.ntmps23
          go_wp2_with (go_at_call 29; refine (HC.out _).mono ?_; rintro e w' ⟨rfl, rfl⟩)
          go_quiet (fail)
          go_wp2
          go_ret
          exact ⟨ret_bool HF.out.symm, Grown.refl _⟩
      · have g0 : decide (0 ≤ n) = false := by simpa using n0
        have HF : Hid (hourB s = false) := by show hourB s = false; rw [HY.out]; exact head2_out u n HN.out HZ.out (by omega)
        clear n0
        go_enter Try.func23, Try.ntmps23
        go_wp2_with (go_at_call 29; refine (HC.out _).mono ?_; rintro e w' ⟨rfl, rfl⟩)
        go_quiet (fail)
        go_wp2
        go_ret
        exact ⟨ret_bool HF.out.symm, Grown.refl _⟩
    · have d4 : ((s[2].toNat : Int) != 58) = true := by simpa using c4
      have HY : Hid (hourB s = false) := by
        show hourB s = false
        unfold hourB; rw [HE4.out]; simp [c4]
      clear c4 HE4
      go_enter Try.func23, Try.ntmps23
      go_wp2
      go_ret
      exact ⟨ret_bool HY.out.symm, Grown.refl _⟩
  · have HY : Hid (hourB s = false) := by
      show hourB s = false
      unfold hourB; simp [h4]
    go_enter Try.func23, Try.ntmps23
    go_wp2
    go_ret
    exact ⟨ret_bool HY.out.symm, Grown.refl _⟩

theorem zzNumber_head4 (s u : ByteArray) (hu : u = s.extract 0 4) (hk : 4 ≤ s.size) (n : Int) (hn : n = numAt u 4) (w : World) : Calls Try.prog 29 #[.string (s.extract 0 4)] w fun e w' => e = .returned (.int .i64 n) ∧ w' = w := by
  rw [hn, ← hu]
  exact zzNumber4 u (by rw [hu, ByteArray.size_extract]; omega) w

theorem head4_eq (u v : ByteArray) (n : Int) (hn : n = numAt u 4) (hu : u.size = 4) (hv : v = strOfNums [48 + n / 10 / 10 / 10 % 10, 48 + n / 10 / 10 % 10, 48 + n / 10 % 10, 48 + n % 10]) : (v.toList == u.toList) = allB digB u := by
  cases h : allB digB u
  · rw [beq_eq_false_iff_ne]
    intro e
    rw [ByteArray.toList_eq, ByteArray.toList_eq] at e
    have hvu : v = u := Go.WideShapes.bytes_inj e
    have := pad4_back u n hu (by rw [← hv]; exact hvu)
    rw [h] at this; cases this
  · have := (pad4_yes u hu h).2.2
    rw [← hn, ← hv] at this
    rw [this]; simp
theorem head4_out (u : ByteArray) (n : Int) (hn : n = numAt u 4) (hu : u.size = 4) (h : ¬ (0 ≤ n ∧ n ≤ 9999)) : allB digB u = false := by
  cases h' : allB digB u
  · rfl
  · have := pad4_yes u hu h'
    rw [← hn] at this
    exact absurd ⟨this.1, this.2.1⟩ h

set_option maxHeartbeats 800000 in
theorem zzYearHead_any (s : ByteArray) (w : World) (hs : s.size ≤ 2000000) : Calls Try.prog 22 #[.string s] w fun e w' => e = .returned (.bool (yearB s)) ∧ Grown w w' := by
  by_cases h4 : 4 < s.size
  · have HE4 : Hid (at_ s 4 = (s[4].toNat : Int)) := at_eq s 4 h4
    by_cases c4 : (s[4].toNat : Int) = 45
    · have d4 : ((s[4].toNat : Int) != 45) = false := by simpa using c4
      obtain ⟨u, hu⟩ : ∃ u, u = s.extract 0 4 := ⟨_, rfl⟩
      obtain ⟨n, hn⟩ : ∃ n, n = numAt u 4 := ⟨_, rfl⟩
      have hsz : u.size = 4 := by rw [hu, ByteArray.size_extract]; omega
      have HY : Hid (yearB s = allB digB u) := by
        show yearB s = allB digB u
        unfold yearB; rw [HE4.out, ← hu]; simp [h4, c4]
      have HC : Hid (∀ w, Calls Try.prog 29 #[.string (s.extract 0 4)] w fun e w' => e = .returned (.int .i64 n) ∧ w' = w) := zzNumber_head4 s u hu (by omega) n hn
      have HU : Hid (u = s.extract 0 4) := hu
      have HN : Hid (n = numAt u 4) := hn
      have HZ : Hid (u.size = 4) := hsz
      have i4 : (4 : Int) ≤ (s.size : Int) := by omega
      have i5 : 4 ≤ s.size := by omega
      clear hu hn hsz c4 HE4
      by_cases n0 : 0 ≤ n
      · by_cases n9 : n ≤ 9999
        · obtain ⟨v, hv⟩ : ∃ v, v = strOfNums [48 + n / 10 / 10 / 10 % 10, 48 + n / 10 / 10 % 10, 48 + n / 10 % 10, 48 + n % 10] := ⟨_, rfl⟩
          have HV : Hid (v = strOfNums [48 + n / 10 / 10 / 10 % 10, 48 + n / 10 / 10 % 10, 48 + n / 10 % 10, 48 + n % 10]) := hv
          have HP : Hid (∀ w, Calls Try.prog 30 #[.int .i64 n, .int .i64 4] w fun e w' => e = .returned (.string v) ∧ Grown w w') := by rw [hv]; exact zzPad4 n n0 n9
          clear hv
          go_enter Try.func22, Try.ntmps22
          go_wp2_with (go_at_call 29; refine (HC.out _).mono ?_; rintro e w' ⟨rfl, rfl⟩)
          go_region_held3 (fun _ => True) (trivial) (first | (go_at_call 30; refine (HP.out _).mono ?_; rintro e w' ⟨rfl, hg⟩))
          all_goals go_wp2
          all_goals go_ret
          all_goals exact ⟨ret_bool (by rw [HY.out, ← HU.out]; exact head4_eq u v n HN.out HZ.out HV.out), hg⟩
        · have g9 : decide (n ≤ 9999) = false := by simpa using n9
          have HF : Hid (yearB s = false) := by show yearB s = false; rw [HY.out]; exact head4_out u n HN.out HZ.out (by omega)
          clear n9
          go_enter Try.func22, Try.ntmps22
          go_wp2_with (go_at_call 29; refine (HC.out _).mono ?_; rintro e w' ⟨rfl, rfl⟩)
          go_quiet (fail)
          go_wp2
          go_ret
          exact ⟨ret_bool HF.out.symm, Grown.refl _⟩
      · have g0 : decide (0 ≤ n) = false := by simpa using n0
        have HF : Hid (yearB s = false) := by show yearB s = false; rw [HY.out]; exact head4_out u n HN.out HZ.out (by omega)
        clear n0
        go_enter Try.func22, Try.ntmps22
        go_wp2_with (go_at_call 29; refine (HC.out _).mono ?_; rintro e w' ⟨rfl, rfl⟩)
        go_quiet (fail)
        go_wp2
        go_ret
        exact ⟨ret_bool HF.out.symm, Grown.refl _⟩
    · have d4 : ((s[4].toNat : Int) != 45) = true := by simpa using c4
      have HY : Hid (yearB s = false) := by
        show yearB s = false
        unfold yearB; rw [HE4.out]; simp [c4]
      clear c4 HE4
      go_enter Try.func22, Try.ntmps22
      go_wp2
      go_ret
      exact ⟨ret_bool HY.out.symm, Grown.refl _⟩
  · have HY : Hid (yearB s = false) := by
      show yearB s = false
      unfold yearB; simp [h4]
    go_enter Try.func22, Try.ntmps22
    go_wp2
    go_ret
    exact ⟨ret_bool HY.out.symm, Grown.refl _⟩
end Go.Proofs.Qxb6614930a
