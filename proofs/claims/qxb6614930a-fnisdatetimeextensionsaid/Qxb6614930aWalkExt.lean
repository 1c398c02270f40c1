/-
  The walk of FnIsDatetimeExtension.
-/
import Derived.Test.Qxb6614930aYear
namespace Go.Proofs.Qxb6614930a
open Go.RowKit
set_option linter.unusedVariables false

theorem ZZisDatetime_any (s : ByteArray) (w : World) (hs : s.size ≤ 2000000) : Calls Try.prog 21 #[.string s] w fun e w' => e = .returned (.bool (yearB s || hourB s)) ∧ w' = w := by
  have HC := hide (isDatetime_any s · hs)
  go_enter Try.func21, Try.ntmps21
  go_wp2_with (go_at_call 28; refine (HC.out _).mono ?_; rintro e w' ⟨rfl, rfl⟩)
  go_ret
  exact ⟨rfl, rfl⟩

theorem yearB_append (s t : ByteArray) (h : 4 < s.size) : yearB (s ++ t) = yearB s := by
  unfold yearB
  rw [extract_append_in s t 0 4 (by omega), at_append_left s t 4 h]
  rw [decide_eq_true (show 4 < (s ++ t).size by simp; omega), decide_eq_true h]
theorem hourB_append (s t : ByteArray) (h : 2 < s.size) : hourB (s ++ t) = hourB s := by
  unfold hourB
  rw [extract_append_in s t 0 2 (by omega), at_append_left s t 2 h]
  rw [decide_eq_true (show 2 < (s ++ t).size by simp; omega), decide_eq_true h]
theorem yearB_size {s : ByteArray} (h : yearB s = true) : 4 < s.size := by
  unfold yearB at h; simp at h; exact h.1.1
theorem hourB_size {s : ByteArray} (h : hourB s = true) : 2 < s.size := by
  unfold hourB at h; simp at h; exact h.1.1
theorem ext_yes (s t : ByteArray) (h : (yearB s || hourB s) = true) : (yearB (s ++ t) || hourB (s ++ t)) = true := by
  rw [Bool.or_eq_true] at h
  rcases h with h | h
  · rw [yearB_append s t (yearB_size h), h]; rfl
  · rw [hourB_append s t (hourB_size h), h]; simp
theorem ext_long (s t : ByteArray) (h : 5 ≤ s.size) : (yearB (s ++ t) || hourB (s ++ t)) = (yearB s || hourB s) := by
  rw [yearB_append s t (by omega), hourB_append s t (by omega)]

set_option maxHeartbeats 800000 in
theorem ext_in (s t : ByteArray) (w : World) (ca : s.size ≤ 524288) (cb : t.size ≤ 524288) :
    Calls Try.prog 7 #[.string s, .string t] w fun e w' => e = .returned (.bool true) ∧ Grown w w' := by
  obtain ⟨y, hy⟩ : ∃ y, y = yearB s := ⟨_, rfl⟩
  obtain ⟨h, hh⟩ : ∃ h, h = hourB s := ⟨_, rfl⟩
  obtain ⟨b, hb⟩ : ∃ b, b = (yearB (s ++ t) || hourB (s ++ t)) := ⟨_, rfl⟩
  have HA : Hid (∀ w, Calls Try.prog 21 #[.string s] w fun e w' => e = .returned (.bool (y || h)) ∧ w' = w) := by
    show ∀ w, _
    rw [hy, hh]; exact fun w => ZZisDatetime_any s w (by omega)
  have HB : Hid (∀ w, Calls Try.prog 21 #[.string (s ++ t)] w fun e w' => e = .returned (.bool b) ∧ w' = w) := by
    show ∀ w, _
    rw [hb]; exact fun w => ZZisDatetime_any (s ++ t) w (by simp; omega)
  have HY : Hid (∀ w, Calls Try.prog 22 #[.string s] w fun e w' => e = .returned (.bool y) ∧ Grown w w') := by
    show ∀ w, _
    rw [hy]; exact fun w => zzYearHead_any s w (by omega)
  have HH : Hid (∀ w, Calls Try.prog 23 #[.string s] w fun e w' => e = .returned (.bool h) ∧ Grown w w') := by
    show ∀ w, _
    rw [hh]; exact fun w => zzHourHead_any s w (by omega)
  have E1 : Hid ((y || h) = true → b = true) := by
    show (y || h) = true → b = true
    rw [hy, hh, hb]; exact ext_yes s t
  have E2 : Hid (5 ≤ s.size → b = (y || h)) := by
    show 5 ≤ s.size → b = (y || h)
    rw [hy, hh, hb]; exact ext_long s t
  clear hy hh hb
  go_enter Try.func7, Try.ntmps7
  go_wp2_with (first | (go_at_call 20; go_in) | fail)
  refine (HA.out _).mono ?_
  rintro e w1 ⟨rfl, rfl⟩
  go_wp2_with fail
  refine (HB.out _).mono ?_
  rintro e w2 ⟨rfl, rfl⟩
  go_wp2_with fail
  refine (HY.out _).mono ?_
  rintro e w3 ⟨rfl, hg3⟩
  have G3 := hide hg3
  clear hg3
  by_cases h5 : 5 ≤ s.size
  · obtain rfl := E2.out h5
    cases y
    · go_wp2_with fail
      refine (HH.out _).mono ?_
      rintro e w4 ⟨rfl, hg4⟩
      have G4 := hide hg4
      clear hg4
      cases h
      all_goals
        go_wp2
        go_ret
        exact ⟨rfl, World.keptBut_trans G3.out.1 G4.out.1, fun x => (G4.out.2.1 x).trans (G3.out.2.1 x), Nat.le_trans G3.out.2.2 G4.out.2.2⟩
    · go_wp2
      go_ret
      exact ⟨rfl, G3.out⟩
  · cases y
    · go_wp2_with fail
      refine (HH.out _).mono ?_
      rintro e w4 ⟨rfl, hg4⟩
      have G4 := hide hg4
      clear hg4
      cases h
      · go_wp2
        go_ret
        exact ⟨rfl, World.keptBut_trans G3.out.1 G4.out.1, fun x => (G4.out.2.1 x).trans (G3.out.2.1 x), Nat.le_trans G3.out.2.2 G4.out.2.2⟩
      · obtain rfl := E1.out rfl
        go_wp2
        go_ret
        exact ⟨rfl, World.keptBut_trans G3.out.1 G4.out.1, fun x => (G4.out.2.1 x).trans (G3.out.2.1 x), Nat.le_trans G3.out.2.2 G4.out.2.2⟩
    · obtain rfl := E1.out rfl
      go_wp2
      go_ret
      exact ⟨rfl, G3.out⟩

theorem ext_walk (s t : ByteArray) (w : World) :
    Calls Try.prog 7 #[.string s, .string t] w fun e w' => e = .returned (.bool true) ∧ Grown w w' := by
  by_cases ca : s.size ≤ 524288
  · by_cases cb : t.size ≤ 524288
    · exact ext_in s t w ca cb
    · go_enter Try.func7, Try.ntmps7
      go_wp2
      all_goals (go_ret; exact ⟨rfl, Grown.refl _⟩)
  · go_enter Try.func7, Try.ntmps7
    go_wp2
    all_goals (go_ret; exact ⟨rfl, Grown.refl _⟩)
end Go.Proofs.Qxb6614930a
