/-
  The walk of FnWordCut.
-/
import Derived.Test.Qxb6614930aWalkReread
namespace Go.Proofs.Qxb6614930a
open Go.RowKit
set_option linter.unusedVariables false

/-- A run stops somewhere. -/
theorem Stop.some_from (f : Int → Bool) (s : ByteArray) : ∀ (n p : Nat), p ≤ s.size → s.size - p = n → ∃ q, Stop f s p q
  | 0, p, hp, hn => ⟨p, Nat.le_refl _, hp, fun k h1 h2 => by omega, fun h => by omega⟩
  | n + 1, p, hp, hn => by
    cases c : f (at_ s p)
    · exact ⟨p, Nat.le_refl _, hp, fun k h1 h2 => by omega, fun _ => c⟩
    · obtain ⟨q, h⟩ := Stop.some_from f s n (p + 1) (by omega) (by omega)
      refine ⟨q, by have := h.lo; omega, h.hi, fun k h1 h2 => ?_, h.ends⟩
      by_cases e : k = p
      · rw [e]; exact c
      · exact h.run k (by omega) h2

/-- What a word's reading hands back, its stop known. -/
theorem word_run {s : ByteArray} {p q : Nat} (h : Stop wordB s p q) (hs : s.size ≤ maxLen) (w : World) :
    Calls Try.prog 15 #[.string s, .int .i64 p] w fun e w' => e = .returned (.tuple #[.string (s.extract p q), .int .i64 q]) ∧ Kept w.heap.size w w' := by
  refine (ZZword_any s p w hs (Nat.le_trans h.lo h.hi)).mono ?_
  rintro e w' ⟨r, rfl, hr, hk⟩
  obtain rfl := hr.uniq h
  exact ⟨rfl, hk⟩
theorem word_run0 {s : ByteArray} {q : Nat} (h : Stop wordB s 0 q) (hs : s.size ≤ maxLen) (w : World) :
    Calls Try.prog 15 #[.string s, .int .i64 0] w fun e w' => e = .returned (.tuple #[.string (s.extract 0 q), .int .i64 q]) ∧ Kept w.heap.size w w' := by
  simpa using word_run h hs w
theorem word_in {a : ByteArray} {p q : Nat} (h : Stop wordB a p q) (b : ByteArray) (hq : q < a.size) (hs : (a ++ b).size ≤ maxLen) (w : World) :
    Calls Try.prog 15 #[.string (a ++ b), .int .i64 p] w fun e w' => e = .returned (.tuple #[.string (a.extract p q), .int .i64 q]) ∧ Kept w.heap.size w w' := by
  have := word_run (h.append_in b hq) hs w
  rwa [extract_append_in a b p q (by omega)] at this
theorem word_out {a b : ByteArray} {p s : Nat} (h : Stop wordB a p a.size) (g : Stop wordB b 0 s) (hs : (a ++ b).size ≤ maxLen) (w : World) :
    Calls Try.prog 15 #[.string (a ++ b), .int .i64 p] w fun e w' => e = .returned (.tuple #[.string (a.extract p a.size ++ b.extract 0 s), .int .i64 ((a.size : Int) + (s : Int))]) ∧ Kept w.heap.size w w' := by
  have := word_run (h.append_out g) hs w
  rwa [extract_append_out a b p s h.lo g.hi, show ((a.size + s : Nat) : Int) = (a.size : Int) + (s : Int) by omega] at this
theorem allWord_run {s : ByteArray} {p q : Nat} (h : Stop wordB s p q) (hs : s.size ≤ maxLen) (w : World) : Calls Try.prog 16 #[.string (s.extract p q)] w fun e w' => e = .returned (.bool true) ∧ w' = w := by
  have := zzAllWord_any (s.extract p q) w (by rw [ByteArray.size_extract]; omega)
  rw [h.all] at this
  exact this
theorem stopsWord_run {s : ByteArray} {p q : Nat} (h : Stop wordB s p q) (hs : s.size ≤ maxLen) (w : World) : Calls Try.prog 17 #[.string s, .int .i64 q] w fun e w' => e = .returned (.bool true) ∧ w' = w := by
  have := zzStopsWord_any s q w hs h.hi
  rw [h.stop] at this
  exact this

set_option maxHeartbeats 1600000 in
theorem wordCut_in (a b : ByteArray) (p : Nat) (w : World) (ca : a.size ≤ 524288) (cb : b.size ≤ 524288) (hp : p ≤ a.size) :
    Calls Try.prog 5 #[.string a, .string b, .int .i64 p] w fun e w' => e = .returned (.bool true) ∧ Grown w w' := by
  have HA : Hid (a.size ≤ maxLen) := by show a.size ≤ maxLen; unfold maxLen; omega
  have HB : Hid (b.size ≤ maxLen) := by show b.size ≤ maxLen; unfold maxLen; omega
  have HAB : Hid ((a ++ b).size ≤ maxLen) := by show (a ++ b).size ≤ maxLen; unfold maxLen; simp; omega
  obtain ⟨q, hq⟩ := Stop.some_from wordB a _ p hp rfl
  obtain ⟨s, hs⟩ := Stop.some_from wordB b _ 0 (Nat.zero_le _) rfl
  have h1 := hq.lo
  have h2 := hq.hi
  have h3 := hs.hi
  have HQ := hide hq
  have HSS := hide hs
  clear hq hs
  by_cases hlt : q < a.size
  · go_enter Try.func5, Try.ntmps5
    go_wp2_with (first | (go_at_call 14; go_in) | fail)
    refine (word_run HQ.out HA.out _).mono ?_
    rintro e w1 ⟨rfl, hk1⟩
    have HK1 := hide hk1
    clear hk1
    go_wp2_with fail
    refine (word_in HQ.out b hlt HAB.out _).mono ?_
    rintro e w2 ⟨rfl, hk2⟩
    have HK2 := hide hk2
    clear hk2
    go_wp2_with fail
    refine (word_run0 HSS.out HB.out _).mono ?_
    rintro e w3 ⟨rfl, hk3⟩
    have HK3 := hide hk3
    clear hk3
    have HG : Hid (Grown w w3) := (HK1.out.trans ((HK2.out.mono HK1.out.1.size).trans (HK3.out.mono (Nat.le_trans HK1.out.1.size HK2.out.1.size)))).grown
    clear HK1 HK2 HK3
    go_wp2_with fail
    refine (allWord_run HQ.out HA.out _).mono ?_
    rintro e w4 ⟨rfl, rfl⟩
    go_wp2_with fail
    refine (stopsWord_run HQ.out HA.out _).mono ?_
    rintro e w5 ⟨rfl, rfl⟩
    go_wp2_with fail
    refine (allWord_run HSS.out HB.out _).mono ?_
    rintro e w6 ⟨rfl, rfl⟩
    go_wp2_with fail
    refine (stopsWord_run HSS.out HB.out _).mono ?_
    rintro e w7 ⟨rfl, rfl⟩
    go_wp2
    go_ret
    exact ⟨rfl, HG.out⟩
  · obtain rfl : q = a.size := by omega
    go_enter Try.func5, Try.ntmps5
    go_wp2_with (first | (go_at_call 14; go_in) | fail)
    refine (word_run HQ.out HA.out _).mono ?_
    rintro e w1 ⟨rfl, hk1⟩
    have HK1 := hide hk1
    clear hk1
    go_wp2_with fail
    refine (word_out HQ.out HSS.out HAB.out _).mono ?_
    rintro e w2 ⟨rfl, hk2⟩
    have HK2 := hide hk2
    clear hk2
    go_wp2_with fail
    refine (word_run0 HSS.out HB.out _).mono ?_
    rintro e w3 ⟨rfl, hk3⟩
    have HK3 := hide hk3
    clear hk3
    have HG : Hid (Grown w w3) := (HK1.out.trans ((HK2.out.mono HK1.out.1.size).trans (HK3.out.mono (Nat.le_trans HK1.out.1.size HK2.out.1.size)))).grown
    clear HK1 HK2 HK3
    go_wp2_with fail
    refine (allWord_run HQ.out HA.out _).mono ?_
    rintro e w4 ⟨rfl, rfl⟩
    go_wp2_with fail
    refine (stopsWord_run HQ.out HA.out _).mono ?_
    rintro e w5 ⟨rfl, rfl⟩
    go_wp2_with fail
    refine (allWord_run HSS.out HB.out _).mono ?_
    rintro e w6 ⟨rfl, rfl⟩
    go_wp2_with fail
    refine (stopsWord_run HSS.out HB.out _).mono ?_
    rintro e w7 ⟨rfl, rfl⟩
    go_wp2
    go_ret
    exact ⟨rfl, HG.out⟩

theorem wordCut_walk (a b : ByteArray) (p : Int) (w : World) :
    Calls Try.prog 5 #[.string a, .string b, .int .i64 p] w fun e w' => e = .returned (.bool true) ∧ Grown w w' := by
  by_cases ca : a.size ≤ 524288
  · by_cases cb : b.size ≤ 524288
    · by_cases c1 : p < 0
      · go_enter Try.func5, Try.ntmps5
        go_wp2
        go_ret
        exact ⟨rfl, Grown.refl _⟩
      · by_cases c2 : (a.size : Int) < p
        · go_enter Try.func5, Try.ntmps5
          go_wp2
          go_ret
          exact ⟨rfl, Grown.refl _⟩
        · obtain ⟨p, rfl⟩ : ∃ q : Nat, p = (q : Int) := ⟨p.toNat, by omega⟩
          exact wordCut_in a b p w ca cb (by omega)
    · go_enter Try.func5, Try.ntmps5
      go_wp2
      all_goals (go_ret; exact ⟨rfl, Grown.refl _⟩)
  · go_enter Try.func5, Try.ntmps5
    go_wp2
    all_goals (go_ret; exact ⟨rfl, Grown.refl _⟩)
end Go.Proofs.Qxb6614930a
