/-
  The walk of FnWordRereadsItself.
-/
import Derived.Test.Qxb6614930aWord
namespace Go.Proofs.Qxb6614930a
open Go.RowKit
set_option linter.unusedVariables false

theorem ZZword_zero (s : ByteArray) (w : World) (hs : s.size ≤ maxLen) :
    Calls Try.prog 15 #[.string s, .int .i64 0] w fun e w' => ∃ q : Nat, e = .returned (.tuple #[.string (s.extract 0 q), .int .i64 q]) ∧ Stop wordB s 0 q ∧ Kept w.heap.size w w' := by
  have := ZZword_any s 0 w hs (Nat.zero_le _)
  simpa using this

theorem extract_whole (s : ByteArray) : s.extract 0 s.size = s := by
  apply ByteArray.ext_getElem
  · simp
  · intro i h1 h2; rw [ByteArray.getElem_extract]; simp

/-- A word, read again by itself, is read whole. -/
theorem ZZword_self (s u : ByteArray) (p q : Nat) (w : World) (hs : s.size ≤ maxLen) (h : Stop wordB s p q) (hu : u = s.extract p q) :
    Calls Try.prog 15 #[.string u, .int .i64 0] w fun e w' => e = .returned (.tuple #[.string u, .int .i64 u.size]) ∧ Kept w.heap.size w w' := by
  have g := h.self
  rw [← hu] at g
  refine (ZZword_zero u w ?_).mono ?_
  · rw [hu, ByteArray.size_extract]; omega
  · rintro e w' ⟨r, rfl, hr, hk⟩
    obtain rfl := hr.uniq g
    rw [extract_whole]
    exact ⟨rfl, hk⟩

/-- At a word's end no more is read. -/
theorem ZZword_end (s : ByteArray) (p q : Nat) (w : World) (hs : s.size ≤ maxLen) (h : Stop wordB s p q) :
    Calls Try.prog 15 #[.string s, .int .i64 q] w fun e w' => e = .returned (.tuple #[.string ByteArray.empty, .int .i64 q]) ∧ Kept w.heap.size w w' := by
  refine (ZZword_any s q w hs h.hi).mono ?_
  rintro e w' ⟨r, rfl, hr, hk⟩
  obtain rfl := hr.uniq h.again
  have e0 : s.extract r r = ByteArray.empty := by
    apply ByteArray.ext_getElem
    · simp
    · intro i h1 h2; simp at h2
  rw [e0]
  exact ⟨rfl, hk⟩

theorem isEmpty_bytes (s : ByteArray) : s.toList.isEmpty = decide (s.size = 0) := by
  rw [ByteArray.toList_eq, Bool.eq_iff_iff, List.isEmpty_iff_length_eq_zero, decide_eq_true_iff]
  rfl

theorem starts_word {s : ByteArray} {p q : Nat} (h : Stop wordB s p q) (hlt : p < s.size) : (wordB (s[p].toNat : Int) == !(s.extract p q).toList.isEmpty) = true := by
  have h1 := h.lo; have h2 := h.hi
  rw [isEmpty_bytes, ByteArray.size_extract, ← at_eq s p hlt]
  by_cases c : p = q
  · subst c
    rw [h.ends hlt]
    simp; try omega
  · rw [h.run p (Nat.le_refl _) (by omega)]
    simp; omega
theorem starts_not {s : ByteArray} {p q : Nat} (h : Stop wordB s p q) (hlt : ¬ p < s.size) : (s.extract p q).toList.isEmpty = true := by
  have h1 := h.lo; have h2 := h.hi
  rw [isEmpty_bytes, ByteArray.size_extract]
  simp; omega

set_option maxHeartbeats 800000 in
theorem reread_in (s : ByteArray) (p : Nat) (w : World) (c0 : s.size ≤ 1048576) (hp : p ≤ s.size) :
    Calls Try.prog 6 #[.string s, .int .i64 p] w fun e w' => e = .returned (.bool true) ∧ Grown w w' := by
  have hs : s.size ≤ maxLen := by unfold maxLen; omega
  have HS := hide hs
  clear hs
  go_enter Try.func6, Try.ntmps6
  go_wp2_with (first | (go_at_call 18; go_in) | fail)
  refine (ZZword_any s p _ HS.out hp).mono ?_
  rintro e w1 ⟨q, rfl, hq, hk1⟩
  have h1 := hq.lo
  have h2 := hq.hi
  have HQ := hide hq
  have HK1 := hide hk1
  clear hq hk1
  obtain ⟨u, hu⟩ : ∃ u, u = s.extract p q := ⟨_, rfl⟩
  rw [← hu]
  have HU := hide hu
  clear hu
  go_wp2_with fail
  refine (ZZword_self s u p q _ HS.out HQ.out HU.out).mono ?_
  rintro e w2 ⟨rfl, hk2⟩
  have HK2 := hide hk2
  clear hk2
  go_wp2_with fail
  refine (ZZword_end s p q _ HS.out HQ.out).mono ?_
  rintro e w3 ⟨rfl, hk3⟩
  have HK3 := hide hk3
  clear hk3
  by_cases hlt : p < s.size
  · go_wp2_with (go_at_call 19; refine (zzWordByte_any _ _).mono ?_; rintro e w' ⟨rfl, rfl⟩)
    · go_ret
      exact ⟨ret_bool (starts_word HQ.out hlt), (HK1.out.trans ((HK2.out.mono HK1.out.1.size).trans (HK3.out.mono (Nat.le_trans HK1.out.1.size HK2.out.1.size)))).grown⟩
    · exact absurd (by rw [HU.out]) ‹¬ u.toList = _›
  · go_wp2_with (go_at_call 19; refine (zzWordByte_any _ _).mono ?_; rintro e w' ⟨rfl, rfl⟩)
    · go_ret
      exact ⟨ret_bool (by rw [starts_not HQ.out hlt]), (HK1.out.trans ((HK2.out.mono HK1.out.1.size).trans (HK3.out.mono (Nat.le_trans HK1.out.1.size HK2.out.1.size)))).grown⟩
    · exact absurd (by rw [HU.out]) ‹¬ u.toList = _›

theorem reread_walk (a0 : ByteArray) (a1 : Int) (w : World) :
    Calls Try.prog 6 #[.string a0, .int .i64 a1] w fun e w' => e = .returned (.bool true) ∧ Grown w w' := by
  by_cases c0 : a0.size ≤ 1048576
  · by_cases c1 : a1 < 0
    · go_enter Try.func6, Try.ntmps6
      go_wp2
      go_ret
      exact ⟨rfl, Grown.refl _⟩
    · by_cases c2 : (a0.size : Int) < a1
      · go_enter Try.func6, Try.ntmps6
        go_wp2
        go_ret
        exact ⟨rfl, Grown.refl _⟩
      · obtain ⟨p, rfl⟩ : ∃ p : Nat, a1 = (p : Int) := ⟨a1.toNat, by omega⟩
        exact reread_in a0 p w c0 (by omega)
  · go_enter Try.func6, Try.ntmps6
    go_wp2
    go_ret
    exact ⟨rfl, Grown.refl _⟩
end Go.Proofs.Qxb6614930a
