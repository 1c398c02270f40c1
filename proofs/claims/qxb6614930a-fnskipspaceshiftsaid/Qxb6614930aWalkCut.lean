/-
  The walk of FnSkipSpaceCut.
-/
import Derived.Test.Qxb6614930aSkip
namespace Go.Proofs.Qxb6614930a
open Go.RowKit
set_option linter.unusedVariables false

theorem ZZskipSpace_zero (s : ByteArray) (w : World) (hs : s.size ≤ maxLen) :
    Calls Try.prog 10 #[.string s, .int .i64 0] w fun e w' => ∃ q : Nat, e = .returned (.int .i64 q) ∧ Stop blankB s 0 q ∧ Kept w.heap.size w w' := by
  have := ZZskipSpace_any s 0 w hs (Nat.zero_le _)
  simpa using this

theorem allBlank_run {s : ByteArray} {p q : Nat} (h : Stop blankB s p q) (hs : s.size ≤ maxLen) (w : World) : Calls Try.prog 11 #[.string (s.extract p q)] w fun e w' => e = .returned (.bool true) ∧ w' = w := by
  have := zzAllBlank_any (s.extract p q) w (by rw [ByteArray.size_extract]; omega)
  rw [h.all] at this
  exact this
theorem stopsBlank_run {s : ByteArray} {p q : Nat} (h : Stop blankB s p q) (hs : s.size ≤ maxLen) (w : World) : Calls Try.prog 12 #[.string s, .int .i64 q] w fun e w' => e = .returned (.bool true) ∧ w' = w := by
  have := zzStopsBlank_any s q w hs h.hi
  rw [h.stop] at this
  exact this

set_option maxHeartbeats 1600000 in
theorem cut_in (a b : ByteArray) (p : Nat) (w : World) (ca : a.size ≤ 524288) (cb : b.size ≤ 524288) (hp : p ≤ a.size) :
    Calls Try.prog 3 #[.string a, .string b, .int .i64 p] w fun e w' => e = .returned (.bool true) ∧ Grown w w' := by
  have HA : Hid (a.size ≤ maxLen) := by show a.size ≤ maxLen; unfold maxLen; omega
  have HB : Hid (b.size ≤ maxLen) := by show b.size ≤ maxLen; unfold maxLen; omega
  have HAB : Hid ((a ++ b).size ≤ maxLen) := by show (a ++ b).size ≤ maxLen; unfold maxLen; simp; omega
  go_enter Try.func3, Try.ntmps3
  go_wp2_with (first | (go_at_call 9; go_in) | fail)
  refine (ZZskipSpace_any a p _ HA.out hp).mono ?_
  rintro e w1 ⟨q, rfl, hq, hk1⟩
  have h1 := hq.lo
  have h2 := hq.hi
  have HQ := hide hq
  have HK1 := hide hk1
  clear hq hk1
  go_wp2_with fail
  refine (ZZskipSpace_any (a ++ b) p _ HAB.out (by simp; omega)).mono ?_
  rintro e w2 ⟨r, rfl, hr, hk2⟩
  have HR := hide hr
  have HK2 := hide hk2
  clear hr hk2
  go_wp2_with fail
  refine (ZZskipSpace_zero b _ HB.out).mono ?_
  rintro e w3 ⟨s, rfl, hs, hk3⟩
  have h3 := hs.hi
  have HSS := hide hs
  have HK3 := hide hk3
  clear hs hk3
  have HG : Hid (Grown w w3) := (HK1.out.trans ((HK2.out.mono HK1.out.1.size).trans (HK3.out.mono (Nat.le_trans HK1.out.1.size HK2.out.1.size)))).grown
  clear HK1 HK2 HK3
  by_cases hlt : q < a.size
  · obtain rfl : r = q := HR.out.uniq (HQ.out.append_in b hlt)
    go_wp2_with fail
    refine (allBlank_run HQ.out HA.out _).mono ?_
    rintro e w4 ⟨rfl, rfl⟩
    go_wp2_with fail
    refine (stopsBlank_run HQ.out HA.out _).mono ?_
    rintro e w5 ⟨rfl, rfl⟩
    go_wp2_with fail
    refine (allBlank_run HSS.out HB.out _).mono ?_
    rintro e w6 ⟨rfl, rfl⟩
    go_wp2_with fail
    refine (stopsBlank_run HSS.out HB.out _).mono ?_
    rintro e w7 ⟨rfl, rfl⟩
    go_wp2
    go_ret
    exact ⟨rfl, HG.out⟩
  · obtain rfl : q = a.size := by omega
    obtain rfl : r = a.size + s := HR.out.uniq (HQ.out.append_out HSS.out)
    go_wp2_with fail
    refine (allBlank_run HQ.out HA.out _).mono ?_
    rintro e w4 ⟨rfl, rfl⟩
    go_wp2_with fail
    refine (stopsBlank_run HQ.out HA.out _).mono ?_
    rintro e w5 ⟨rfl, rfl⟩
    go_wp2_with fail
    refine (allBlank_run HSS.out HB.out _).mono ?_
    rintro e w6 ⟨rfl, rfl⟩
    go_wp2_with fail
    refine (stopsBlank_run HSS.out HB.out _).mono ?_
    rintro e w7 ⟨rfl, rfl⟩
    go_wp2
    go_ret
    exact ⟨rfl, HG.out⟩

theorem cut_walk (a b : ByteArray) (p : Int) (w : World) :
    Calls Try.prog 3 #[.string a, .string b, .int .i64 p] w fun e w' => e = .returned (.bool true) ∧ Grown w w' := by
  by_cases ca : a.size ≤ 524288
  · by_cases cb : b.size ≤ 524288
    · by_cases c1 : p < 0
      · go_enter Try.func3, Try.ntmps3
        go_wp2
        go_ret
        exact ⟨rfl, Grown.refl _⟩
      · by_cases c2 : (a.size : Int) < p
        · go_enter Try.func3, Try.ntmps3
          go_wp2
          go_ret
          exact ⟨rfl, Grown.refl _⟩
        · obtain ⟨p, rfl⟩ : ∃ q : Nat, p = (q : Int) := ⟨p.toNat, by omega⟩
          exact cut_in a b p w ca cb (by omega)
    · go_enter Try.func3, Try.ntmps3
      go_wp2
      all_goals (go_ret; exact ⟨rfl, Grown.refl _⟩)
  · go_enter Try.func3, Try.ntmps3
    go_wp2
    all_goals (go_ret; exact ⟨rfl, Grown.refl _⟩)
end Go.Proofs.Qxb6614930a
