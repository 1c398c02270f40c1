/-
  daysLeftOf and the two laws over it (seat b6615598a).
-/
import Derived.Test.Qxb6615598aRows
import Derived.WalkKit
import Derived.WalkSpells
import Derived.Outline
namespace Go.Proofs.Qxb6615598a
open Go.RowKit
set_option linter.unusedVariables false

theorem grown_trans {a b c : World} (h : Grown a b) (k : Grown b c) : Grown a c :=
  ⟨World.keptBut_trans h.1 k.1, fun x => (k.2.1 x).trans (h.2.1 x), Nat.le_trans h.2.2 k.2.2⟩

/-- daysLeftOf: the days less those reported, as int wraps. -/
theorem daysLeftOf_any (cur : ByteArray) (d r : Int) (w : World) :
    Calls Try.prog 18 #[.string cur, .int .i64 d, .int .i64 r] w fun e w' => e = .returned (.int .i64 (wrap64 (d - r))) ∧ Grown w w' := by
  go_enter Try.func18, Try.ntmps18
  go_wp2
  go_ret
  exact ⟨rfl, by repeat (first | exact Grown.refl _ | apply Grown.drew | apply Grown.alloc)⟩

/-! ### The plain laws: no Go in sight -/
theorem law_shift (d r k : Int) : wrap64 (wrap64 (d + k) - wrap64 (r + k)) = wrap64 (d - r) := by unfold wrap64; omega
theorem law_fall (d r : Int) : wrap64 (d - wrap64 (r + 1)) = wrap64 (wrap64 (d - r) - 1) := by unfold wrap64; omega
theorem law_rise (d r : Int) : wrap64 (wrap64 (d + 1) - r) = wrap64 (wrap64 (d - r) + 1) := by unfold wrap64; omega
theorem law_back (d r : Int) (h1 : -9223372036854775808 ≤ r) (h2 : r ≤ 9223372036854775807) : wrap64 (d - wrap64 (d - r)) = r := by unfold wrap64; omega
theorem law_neg (d r : Int) : wrap64 (r - d) = wrap64 (- wrap64 (d - r)) := by unfold wrap64; omega

set_option maxHeartbeats 400000 in
theorem shifts_walk (a0 : ByteArray) (a1 a2 a3 : Int) (w : World) :
    Calls Try.prog 4 #[.string a0, .int .i64 a1, .int .i64 a2, .int .i64 a3] w fun e w' => e = .returned (.bool true) ∧ Grown w w' := by
  by_cases c0 : a0.size ≤ 1048576
  · go_enter Try.func4, Try.ntmps4
    go_wp2_with (first | (go_at_call 17; go_in) | fail)
    refine (daysLeftOf_any _ _ _ _).mono ?_
    rintro e w1 ⟨rfl, g1⟩
    have G1 : Hid (Grown w w1) := g1
    clear g1
    go_wp2_with fail
    refine (daysLeftOf_any _ _ _ _).mono ?_
    rintro e w2 ⟨rfl, g2⟩
    have G2 : Hid (Grown w w2) := grown_trans G1.out g2
    clear g2 G1
    rw [law_shift]
    go_wp2_with fail
    refine (daysLeftOf_any _ _ _ _).mono ?_
    rintro e w3 ⟨rfl, g3⟩
    have G3 : Hid (Grown w w3) := grown_trans G2.out g3
    clear g3 G2
    rw [law_fall]
    go_wp2_with fail
    refine (daysLeftOf_any _ _ _ _).mono ?_
    rintro e w4 ⟨rfl, g4⟩
    have G4 : Hid (Grown w w4) := grown_trans G3.out g4
    clear g4 G3
    rw [law_rise]
    go_wp2
    go_ret
    exact ⟨rfl, G4.out⟩
  · go_enter Try.func4, Try.ntmps4
    go_wp2
    go_ret
    exact ⟨rfl, Grown.refl _⟩

set_option maxHeartbeats 400000 in
theorem back_walk (a0 : ByteArray) (a1 a2 : Int) (h1 : -9223372036854775808 ≤ a2) (h2 : a2 ≤ 9223372036854775807) (w : World) :
    Calls Try.prog 5 #[.string a0, .int .i64 a1, .int .i64 a2] w fun e w' => e = .returned (.bool true) ∧ Grown w w' := by
  have HL : Hid (wrap64 (a1 - wrap64 (a1 - a2)) = a2) := law_back a1 a2 h1 h2
  clear h1 h2
  by_cases c0 : a0.size ≤ 1048576
  · go_enter Try.func5, Try.ntmps5
    go_wp2_with (first | (go_at_call 19; go_in) | fail)
    refine (daysLeftOf_any _ _ _ _).mono ?_
    rintro e w1 ⟨rfl, g1⟩
    have G1 : Hid (Grown w w1) := g1
    clear g1
    go_wp2_with fail
    refine (daysLeftOf_any _ _ _ _).mono ?_
    rintro e w2 ⟨rfl, g2⟩
    have G2 : Hid (Grown w w2) := grown_trans G1.out g2
    clear g2 G1
    rw [HL.out]
    go_wp2_with fail
    refine (daysLeftOf_any _ _ _ _).mono ?_
    rintro e w3 ⟨rfl, g3⟩
    have G3 : Hid (Grown w w3) := grown_trans G2.out g3
    clear g3 G2
    rw [law_neg]
    go_wp2
    go_ret
    exact ⟨rfl, G3.out⟩
  · go_enter Try.func5, Try.ntmps5
    go_wp2
    go_ret
    exact ⟨rfl, Grown.refl _⟩
end Go.Proofs.Qxb6615598a
