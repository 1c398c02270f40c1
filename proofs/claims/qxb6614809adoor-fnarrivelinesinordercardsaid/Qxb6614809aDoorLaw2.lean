/-
  The law's walk.
-/
import Derived.Test.Qxb6614809aDoorLaw
namespace Go.Proofs.Qxb6614809aDoor
open Go.RowKit
set_option linter.unusedVariables false

set_option maxRecDepth 100000 in
set_option maxHeartbeats 4000000 in
/-- No name at all. -/
theorem law_empty (sa : Option Addr) (cap : Nat) (p t1 g1 i1 t2 g2 i2 : Int) (w : World) :
    Calls Tryd.prog 3 #[.slice sa 0 cap, .int .i64 p, .int .i64 t1, .int .i64 g1, .int .i64 i1, .int .i64 t2, .int .i64 g2, .int .i64 i2] w fun e w' => e = .returned (.bool true) ∧ Below w.heap.size w w' := by
  by_cases h : i1 < 0
  · have h' : decide (i1 < 0) = true := by simpa using h
    go_enter Tryd.func3, Tryd.ntmps3
    go_wp2_with fail
    refine (bytes_empty sa cap _ _ _ _ _ _ _ w).mono ?_
    rintro e w1 ⟨rfl, rfl⟩
    go_wp2_with fail
    refine (fit_empty sa cap _).mono ?_
    rintro e w1 ⟨rfl, rfl⟩
    go_wp2
    go_ret
    exact ⟨rfl, Below.refl _ _⟩
  · have h' : decide (i1 < 0) = false := by simpa using h
    have h2 : decide (i1 ≥ 0) = true := by simp; omega
    go_enter Tryd.func3, Tryd.ntmps3
    go_wp2_with fail
    refine (bytes_empty sa cap _ _ _ _ _ _ _ w).mono ?_
    rintro e w1 ⟨rfl, rfl⟩
    go_wp2_with fail
    refine (fit_empty sa cap _).mono ?_
    rintro e w1 ⟨rfl, rfl⟩
    go_wp2
    go_ret
    exact ⟨rfl, Below.refl _ _⟩

set_option maxRecDepth 100000 in
set_option maxHeartbeats 4000000 in
/-- An index outside. -/
theorem law_out (b off len cap : Nat) (A : Nat → Option Addr) (L C : Nat → Nat) (Y : Nat → List UInt8) (p t1 g1 i1 t2 g2 i2 : Int) (w : World) (h : Names w b off len A L C Y) (hm : len ≤ 9223372036854775807) (hi : i1 < 0 ∨ (len : Int) ≤ i1 ∨ i2 < 0 ∨ (len : Int) ≤ i2) :
    Calls Tryd.prog 3 #[.slice (some ⟨b, off, none⟩) len cap, .int .i64 p, .int .i64 t1, .int .i64 g1, .int .i64 i1, .int .i64 t2, .int .i64 g2, .int .i64 i2] w fun e w' => e = .returned (.bool true) ∧ Below w.heap.size w w' := by
  have H := hide h
  have hc : (decide (i1 < 0) = true) ∨ (decide (i1 < 0) = false ∧ decide (i1 ≥ (len : Int)) = true) ∨ (decide (i1 < 0) = false ∧ decide (i1 ≥ (len : Int)) = false ∧ decide (i2 < 0) = true) ∨ (decide (i1 < 0) = false ∧ decide (i1 ≥ (len : Int)) = false ∧ decide (i2 < 0) = false ∧ decide (i2 ≥ (len : Int)) = true) := by
    simp only [decide_eq_true_eq, decide_eq_false_iff_not]
    omega
  clear h hi
  go_enter Tryd.func3, Tryd.ntmps3
  go_wp2_with fail
  refine (bytes_any' b off len cap A L C Y _ _ _ _ _ _ _ w H.out hm).mono ?_
  rintro e w1 ⟨ha, rfl⟩
  obtain ⟨r, rfl, hr⟩ := ha.ex
  cases r
  · clear hc
    go_wp2
    go_ret
    exact ⟨rfl, Below.refl _ _⟩
  · have HR := hide (hr rfl)
    clear hr ha
    go_wp2_with fail
    refine (fit_any b off len cap A L C Y _ H.out HR.out hm).mono ?_
    rintro e w1 ⟨ha, rfl⟩
    obtain ⟨r, rfl, hr⟩ := ha.ex
    clear hr ha
    cases r
    · clear hc
      go_wp2
      go_ret
      exact ⟨rfl, Below.refl _ _⟩
    · rcases hc with c1 | ⟨c1, c2⟩ | ⟨c1, c2, c3⟩ | ⟨c1, c2, c3, c4⟩
      all_goals
        go_wp2
        go_ret
        exact ⟨rfl, Below.refl _ _⟩
end Go.Proofs.Qxb6614809aDoor
