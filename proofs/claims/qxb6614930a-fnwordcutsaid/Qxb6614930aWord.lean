/-
  word and ZZword of seat b6614930a.
-/
import Derived.Test.Qxb6614930aSkip
namespace Go.Proofs.Qxb6614930a
open Go.RowKit
set_option linter.unusedVariables false

theorem notWord {c : Int} (h : wordB c = false) : bareB c = false ∧ (c != 43) = true ∧ (c != 46) = true ∧ (c != 58) = true := by
  rw [wordB_bare] at h
  simp at h
  obtain ⟨⟨⟨h1, h2⟩, h3⟩, h4⟩ := h
  exact ⟨h1, by simpa using h2, by simpa using h3, by simpa using h4⟩

theorem isWord {c : Int} (h : wordB c = true) : bareB c = true ∨ (bareB c = false ∧ (c != 43) = false) ∨ (bareB c = false ∧ (c != 43) = true ∧ (c != 46) = false) ∨ (bareB c = false ∧ (c != 43) = true ∧ (c != 46) = true ∧ (c != 58) = false) := by
  rw [wordB_bare] at h
  cases h0 : bareB c
  · refine .inr ?_
    simp [h0] at h
    by_cases h1 : c = 43
    · exact .inl ⟨rfl, by simpa using h1⟩
    · by_cases h2 : c = 46
      · exact .inr (.inl ⟨rfl, by simpa using h1, by simpa using h2⟩)
      · exact .inr (.inr ⟨rfl, by simpa using h1, by simpa using h2, by simp; omega⟩)
  · exact .inl rfl

set_option maxHeartbeats 800000 in
theorem word_any (s : ByteArray) (b p : Nat) (w : World) (hs : s.size ≤ maxLen) (hp : p ≤ s.size)
    (ht : w.cell? ⟨b, 0, none⟩ = some (.string s)) (hc : w.cell? ⟨b, 1, none⟩ = some (.int .i64 p)) (hf : w.frozen? ⟨b, 1, none⟩ = false) :
    Calls Try.prog 27 #[.pointer (some ⟨b, 0, none⟩)] w fun e w' => ∃ q, e = .returned (.string (s.extract p q)) ∧ Stop wordB s p q ∧ w'.cell? ⟨b, 1, none⟩ = some (.int .i64 q) ∧ Kept b w w' := by
  unfold maxLen at hs
  go_enter Try.func27, Try.ntmps27
  go_wp2
  go_loopg [4] (s.size - p) (fun gk _ wr => ∃ k : Nat, gk = s.size - k ∧ p ≤ k ∧ k ≤ s.size ∧ (∀ j, p ≤ j → j < k → wordB (at_ s j) = true) ∧ wr.cell? ⟨b, 0, none⟩ = some (.string s) ∧ wr.cell? ⟨b, 1, none⟩ = some (.int .i64 k) ∧ wr.frozen? ⟨b, 1, none⟩ = false ∧ Kept b w wr)
  case atStart => exact ⟨p, rfl, Nat.le_refl _, hp, fun j h1 h2 => by omega, ht, hc, hf, Kept.refl _ _⟩
  case round =>
    clear ht hc hf
    obtain ⟨k, hgk, hpk, hks, hall, ht, hc, hf, hkept⟩ := hrel
    have HA := hide hall
    have HK := hide hkept
    have HG := hide hgk
    clear hall hkept hgk
    by_cases hlt : k < s.size
    · have hat := at_eq s k hlt
      cases hb : wordB (s[k].toNat : Int)
      · have HB : Hid (wordB (at_ s k) = false) := by show wordB (at_ s k) = false; rw [hat]; exact hb
        obtain ⟨d1, d2, d3, d4⟩ := notWord hb
        clear hb hat
        go_wp2
        go_quiet (fail)
        go_wp2
        go_quiet (fail)
        go_wp2_with (go_at_call 31; refine (isBareKeyByte_any _ _).mono ?_; rintro e w' ⟨rfl, rfl⟩)
        go_quiet (fail)
        go_wp2
        go_ret
        exact ⟨k, rfl, ⟨hpk, hks, HA.out, fun _ => HB.out⟩, hc, (HK.out.drewN _).drewN _⟩
      · have HB : Hid (wordB (at_ s k) = true) := by show wordB (at_ s k) = true; rw [hat]; exact hb
        have hcases := isWord hb
        clear hb hat
        rcases hcases with d | ⟨d, d1⟩ | ⟨d, d1, d2⟩ | ⟨d, d1, d2, d3⟩
        all_goals
          go_wp2
          go_quiet (fail)
          go_wp2
          go_quiet (fail)
          go_wp2_with (go_at_call 31; refine (isBareKeyByte_any _ _).mono ?_; rintro e w' ⟨rfl, rfl⟩)
          go_roundg (s.size - (k + 1))
          case measure => rw [HG.out]; omega
          case rel => exact step_rel hpk hlt ht hc hf HA.out HK.out HB.out
    · have hd : decide ((k : Int) < (s.size : Int)) = false := by simpa using hlt
      go_wp2
      go_quiet (fail)
      go_wp2
      go_quiet (fail)
      go_wp2
      go_ret
      exact ⟨k, rfl, ⟨hpk, hks, HA.out, fun h => absurd h hlt⟩, hc, (HK.out.drewN _).drewN _⟩

theorem ZZword_any (s : ByteArray) (p : Nat) (w : World) (hs : s.size ≤ maxLen) (hp : p ≤ s.size) :
    Calls Try.prog 15 #[.string s, .int .i64 p] w fun e w' => ∃ q : Nat, e = .returned (.tuple #[.string (s.extract p q), .int .i64 q]) ∧ Stop wordB s p q ∧ Kept w.heap.size w w' := by
  go_enter Try.func15, Try.ntmps15
  go_wp2_with fail
  refine (word_any s w.heap.size p _ hs hp ?_ ?_ ?_).mono ?_
  · simp [go_sem]
  · simp [go_sem]
  · simp [go_sem]
  rintro e w' ⟨q, rfl, hq, hc, hk⟩
  go_wp2
  go_quiet (fail)
  go_wp2
  go_ret2
  exact ⟨q, rfl, hq, (((Kept.refl _ _).alloc (Nat.le_refl _) _ _).trans hk).drewN _⟩
end Go.Proofs.Qxb6614930a
