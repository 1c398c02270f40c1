/-
  The walk of FnSkipSpaceShift.
-/
import Derived.Test.Qxb6614930aWalkCut
namespace Go.Proofs.Qxb6614930a
open Go.RowKit
set_option linter.unusedVariables false

theorem skip_shift (x t : ByteArray) (p q : Nat) (h : Stop blankB t p q) (hs : (x ++ t).size ≤ maxLen) (w : World) :
    Calls Try.prog 10 #[.string (x ++ t), .int .i64 ((x.size : Int) + (p : Int))] w fun e w' => e = .returned (.int .i64 ((x.size : Int) + (q : Int))) ∧ Kept w.heap.size w w' := by
  have h1 := h.lo; have h2 := h.hi
  have := ZZskipSpace_any (x ++ t) (x.size + p) w hs (by simp; omega)
  rw [show ((x.size + p : Nat) : Int) = (x.size : Int) + (p : Int) by omega] at this
  refine this.mono ?_
  rintro e w' ⟨r, rfl, hr, hk⟩
  obtain rfl := hr.uniq (h.shift x)
  exact ⟨by rw [show ((x.size + q : Nat) : Int) = (x.size : Int) + (q : Int) by omega], hk⟩

theorem skip_again (t : ByteArray) (p q : Nat) (h : Stop blankB t p q) (hs : t.size ≤ maxLen) (w : World) :
    Calls Try.prog 10 #[.string t, .int .i64 q] w fun e w' => e = .returned (.int .i64 q) ∧ Kept w.heap.size w w' := by
  refine (ZZskipSpace_any t q w hs h.hi).mono ?_
  rintro e w' ⟨r, rfl, hr, hk⟩
  obtain rfl := hr.uniq h.again
  exact ⟨rfl, hk⟩

set_option maxHeartbeats 1600000 in
theorem shift_in (x t : ByteArray) (p : Nat) (w : World) (ca : x.size ≤ 524288) (cb : t.size ≤ 524288) (hp : p ≤ t.size) :
    Calls Try.prog 4 #[.string x, .string t, .int .i64 p] w fun e w' => e = .returned (.bool true) ∧ Grown w w' := by
  have HB : Hid (t.size ≤ maxLen) := by show t.size ≤ maxLen; unfold maxLen; omega
  have HAB : Hid ((x ++ t).size ≤ maxLen) := by show (x ++ t).size ≤ maxLen; unfold maxLen; simp; omega
  go_enter Try.func4, Try.ntmps4
  go_wp2_with (first | (go_at_call 13; go_in) | fail)
  refine (ZZskipSpace_any t p _ HB.out hp).mono ?_
  rintro e w1 ⟨q, rfl, hq, hk1⟩
  have h1 := hq.lo
  have h2 := hq.hi
  have HQ := hide hq
  have HK1 := hide hk1
  clear hq hk1
  go_wp2_with fail
  refine (skip_shift x t p q HQ.out HAB.out _).mono ?_
  rintro e w2 ⟨rfl, hk2⟩
  have HK2 := hide hk2
  clear hk2
  go_wp2_with fail
  refine (skip_again t p q HQ.out HB.out _).mono ?_
  rintro e w3 ⟨rfl, hk3⟩
  have HK3 := hide hk3
  clear hk3
  have HG : Hid (Grown w w3) := (HK1.out.trans ((HK2.out.mono HK1.out.1.size).trans (HK3.out.mono (Nat.le_trans HK1.out.1.size HK2.out.1.size)))).grown
  clear HK1 HK2 HK3
  go_wp2_with fail
  refine (allBlank_run HQ.out HB.out _).mono ?_
  rintro e w4 ⟨rfl, rfl⟩
  go_wp2_with fail
  refine (stopsBlank_run HQ.out HB.out _).mono ?_
  rintro e w5 ⟨rfl, rfl⟩
  go_wp2
  go_ret
  exact ⟨rfl, HG.out⟩

theorem shift_walk (x t : ByteArray) (p : Int) (w : World) :
    Calls Try.prog 4 #[.string x, .string t, .int .i64 p] w fun e w' => e = .returned (.bool true) ∧ Grown w w' := by
  by_cases ca : x.size ≤ 524288
  · by_cases cb : t.size ≤ 524288
    · by_cases c1 : p < 0
      · go_enter Try.func4, Try.ntmps4
        go_wp2
        go_ret
        exact ⟨rfl, Grown.refl _⟩
      · by_cases c2 : (t.size : Int) < p
        · go_enter Try.func4, Try.ntmps4
          go_wp2
          go_ret
          exact ⟨rfl, Grown.refl _⟩
        · obtain ⟨p, rfl⟩ : ∃ q : Nat, p = (q : Int) := ⟨p.toNat, by omega⟩
          exact shift_in x t p w ca cb (by omega)
    · go_enter Try.func4, Try.ntmps4
      go_wp2
      all_goals (go_ret; exact ⟨rfl, Grown.refl _⟩)
  · go_enter Try.func4, Try.ntmps4
    go_wp2
    all_goals (go_ret; exact ⟨rfl, Grown.refl _⟩)
end Go.Proofs.Qxb6614930a
