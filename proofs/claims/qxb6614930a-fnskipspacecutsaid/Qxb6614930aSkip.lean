/-
  skipSpace and ZZskipSpace of seat b6614930a.
-/
import Derived.Test.Qxb6614930aLeaves
import Derived.Deep.LoopGhost
namespace Go.Proofs.Qxb6614930a
open Go.RowKit
set_option linter.unusedVariables false

/-- Below B the world is as it was, and no mark has turned anywhere. -/
def Kept (B : Nat) (w w' : World) : Prop := Below B w w' ∧ ∀ a, w'.frozen? a = w.frozen? a
theorem Kept.refl (B : Nat) (w : World) : Kept B w w := ⟨Below.refl _ _, fun _ => rfl⟩
theorem Kept.trans {B : Nat} {a b c : World} (h : Kept B a b) (k : Kept B b c) : Kept B a c := ⟨h.1.trans k.1, fun x => (k.2 x).trans (h.2 x)⟩
theorem Kept.mono {B B' : Nat} {w w' : World} (h : Kept B w w') (hB : B' ≤ B) : Kept B' w w' := ⟨h.1.mono hB, h.2⟩
theorem Kept.alloc {B : Nat} {a w : World} (h : Kept B a w) (hB : B ≤ w.heap.size) (c : Array Value) (t : TypeId) : Kept B a (w.alloc (.cells c t)) :=
  ⟨h.1.alloc hB _, fun x => (frozen?_alloc_cells _ _ _ x).trans (h.2 x)⟩
theorem Kept.setCell {B : Nat} {a w : World} (h : Kept B a w) {p : Addr} (hp : B ≤ p.block) (u : Value) : Kept B a (w.setCell p u) :=
  ⟨h.1.setCell hp u, fun x => (World.frozen?_setCell _ _ _ _).trans (h.2 x)⟩
theorem Kept.drewN {B : Nat} {a w : World} (h : Kept B a w) (n : Nat) : Kept B a (w.drewN n) :=
  ⟨h.1.trans ⟨rfl, rfl, rfl, Nat.le_refl _, fun _ _ => rfl⟩, fun x => h.2 x⟩
theorem Kept.drew {B : Nat} {a w : World} (h : Kept B a w) : Kept B a w.drew := h.drewN 1
theorem Kept.grown {w w' : World} (h : Kept w.heap.size w w') : Grown w w' := ⟨h.1.frame _, h.2, h.1.size⟩

/-- What a round that goes one byte on does to the loop's relation. -/
theorem step_rel {f : Int → Bool} {s : ByteArray} {b p k nq : Nat} {w wr : World} (hpk : p ≤ k) (hlt : k < s.size) (ht : wr.cell? ⟨b, 0, none⟩ = some (.string s)) (hc : wr.cell? ⟨b, 1, none⟩ = some (.int .i64 k)) (hf : wr.frozen? ⟨b, 1, none⟩ = false)
    (HA : ∀ j, p ≤ j → j < k → f (at_ s j) = true) (HK : Kept b w wr) (HB : f (at_ s k) = true) :
    ∃ k' : Nat, s.size - (k + 1) = s.size - k' ∧ p ≤ k' ∧ k' ≤ s.size ∧ (∀ j, p ≤ j → j < k' → f (at_ s j) = true) ∧ ((wr.drewN nq).setCell ⟨b, 1, none⟩ (.int .i64 ((k : Int) + 1))).cell? ⟨b, 0, none⟩ = some (.string s) ∧
      ((wr.drewN nq).setCell ⟨b, 1, none⟩ (.int .i64 ((k : Int) + 1))).cell? ⟨b, 1, none⟩ = some (.int .i64 k') ∧ ((wr.drewN nq).setCell ⟨b, 1, none⟩ (.int .i64 ((k : Int) + 1))).frozen? ⟨b, 1, none⟩ = false ∧
      Kept b w ((wr.drewN nq).setCell ⟨b, 1, none⟩ (.int .i64 ((k : Int) + 1))) := by
  refine ⟨k + 1, rfl, by omega, by omega, fun j h1 h2 => ?_, ?_, ?_, ?_, (HK.drewN nq).setCell (Nat.le_refl _) _⟩
  · by_cases c : j < k
    · exact HA j h1 c
    · obtain rfl : j = k := by omega
      exact HB
  · rw [World.cell?_setCell_other _ _ _ _ (by simp)]; exact ht
  · rw [World.cell?_setCell_same (wr.drewN nq) _ _ (u := .int .i64 k) hc]; simp
  · rw [World.frozen?_setCell]; exact hf

set_option maxHeartbeats 400000 in
theorem skipSpace_any (s : ByteArray) (b p : Nat) (w : World) (hs : s.size ≤ maxLen) (hp : p ≤ s.size)
    (ht : w.cell? ⟨b, 0, none⟩ = some (.string s)) (hc : w.cell? ⟨b, 1, none⟩ = some (.int .i64 p)) (hf : w.frozen? ⟨b, 1, none⟩ = false) :
    Calls Try.prog 25 #[.pointer (some ⟨b, 0, none⟩)] w fun e w' => e = .returned (.tuple #[]) ∧ ∃ q, Stop blankB s p q ∧ w'.cell? ⟨b, 1, none⟩ = some (.int .i64 q) ∧ Kept b w w' := by
  unfold maxLen at hs
  go_enter Try.func25, Try.ntmps25
  go_wp2
  go_loopg [] (s.size - p) (fun gk wr => ∃ k : Nat, gk = s.size - k ∧ p ≤ k ∧ k ≤ s.size ∧ (∀ j, p ≤ j → j < k → blankB (at_ s j) = true) ∧ wr.cell? ⟨b, 0, none⟩ = some (.string s) ∧ wr.cell? ⟨b, 1, none⟩ = some (.int .i64 k) ∧ wr.frozen? ⟨b, 1, none⟩ = false ∧ Kept b w wr)
  case atStart => exact ⟨p, rfl, Nat.le_refl _, hp, fun j h1 h2 => by omega, ht, hc, hf, Kept.refl _ _⟩
  case round =>
    clear ht hc hf
    obtain ⟨k, hgk, hpk, hks, hall, ht, hc, hf, hkept⟩ := hrel
    have HA := hide hall
    have HK := hide hkept
    have HG := hide hgk
    clear hall hkept hgk
    by_cases hlt : k < s.size
    · have hat := at_eq s k hlt
      by_cases c1 : (s[k].toNat : Int) = 32
      · have d1 : ((s[k].toNat : Int) == 32) = true := by simpa using c1
        have HB : Hid (blankB (at_ s k) = true) := by show blankB (at_ s k) = true; rw [hat, c1]; rfl
        clear c1 hat
        go_wp2
        go_quiet (fail)
        go_wp2
        go_roundg (s.size - (k + 1))
        case measure => rw [HG.out]; omega
        case rel => exact step_rel hpk hlt ht hc hf HA.out HK.out HB.out
      · have d1 : ((s[k].toNat : Int) == 32) = false := by simpa using c1
        by_cases c2 : (s[k].toNat : Int) = 9
        · have d2 : ((s[k].toNat : Int) == 9) = true := by simpa using c2
          have HB : Hid (blankB (at_ s k) = true) := by show blankB (at_ s k) = true; rw [hat, c2]; rfl
          clear c1 c2 hat
          go_wp2
          go_quiet (fail)
          go_wp2
          go_roundg (s.size - (k + 1))
          case measure => rw [HG.out]; omega
          case rel => exact step_rel hpk hlt ht hc hf HA.out HK.out HB.out
        · have d2 : ((s[k].toNat : Int) == 9) = false := by simpa using c2
          have HB : Hid (blankB (at_ s k) = false) := by show blankB (at_ s k) = false; rw [hat]; simp [blankB, c1, c2]
          clear c1 c2 hat
          go_wp2
          go_quiet (fail)
          go_wp2
          go_end0
          exact ⟨rfl, k, ⟨hpk, hks, HA.out, fun _ => HB.out⟩, hc, HK.out.drewN _⟩
    · have hd : decide ((k : Int) < (s.size : Int)) = false := by simpa using hlt
      go_wp2
      go_quiet (fail)
      go_wp2
      go_end0
      exact ⟨rfl, k, ⟨hpk, hks, HA.out, fun h => absurd h hlt⟩, hc, HK.out.drewN _⟩

theorem ZZskipSpace_any (s : ByteArray) (p : Nat) (w : World) (hs : s.size ≤ maxLen) (hp : p ≤ s.size) :
    Calls Try.prog 10 #[.string s, .int .i64 p] w fun e w' => ∃ q : Nat, e = .returned (.int .i64 q) ∧ Stop blankB s p q ∧ Kept w.heap.size w w' := by
  go_enter Try.func10, Try.ntmps10
  go_wp2_with fail
  refine (skipSpace_any s w.heap.size p _ hs hp ?_ ?_ ?_).mono ?_
  · simp [go_sem]
  · simp [go_sem]
  · simp [go_sem]
  rintro e w' ⟨rfl, q, hq, hc, hk⟩
  go_wp2
  go_ret
  exact ⟨q, rfl, hq, ((Kept.refl _ _).alloc (Nat.le_refl _) _ _).trans hk⟩
end Go.Proofs.Qxb6614930a
