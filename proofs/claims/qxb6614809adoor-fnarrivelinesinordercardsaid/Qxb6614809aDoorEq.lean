/-
  zzEqBytes.
-/
import Derived.Test.Qxb6614809aDoorLines
import Derived.BigQuiet
namespace Go.Proofs.Qxb6614809aDoor
open Go.RowKit
set_option linter.unusedVariables false

set_option maxRecDepth 100000 in
set_option maxHeartbeats 2000000 in
theorem eqBytes_any (a b : Value) (xs : List UInt8) (w : World) (ha : Row w a xs) (hb : Row w b xs) (h1 : 1 ≤ xs.length) (hl : xs.length ≤ 1000000000) :
    Calls Tryd.prog 11 #[a, b] w fun e w' => e = .returned (.bool true) ∧ ∃ n, w' = w.drewN n := by
  rcases ha.form with ⟨_, e⟩ | ⟨ga, ca, rfl, _, ma, _⟩
  · rw [e] at h1; simp at h1
  · rcases hb.form with ⟨_, e⟩ | ⟨gb, cb, rfl, _, mb, _⟩
    · rw [e] at h1; simp at h1
    · have HA := hide ha.cell
      have HB := hide hb.cell
      generalize hn : xs.length = n at *
      have HN := hide hn
      clear ha hb hn
      unfold maxLen at ma mb
      go_enter Tryd.func11, Tryd.ntmps11
      go_wp2
      go_loopg [5] n (fun gk i wr => ∃ k : Nat, gk = n - k ∧ k ≤ n ∧ i = .int .i64 k ∧ Hid (∃ q, wr = w.drewN q))
      case atStart => exact ⟨0, rfl, Nat.zero_le _, rfl, hide ⟨0, rfl⟩⟩
      case round =>
        obtain ⟨k, hgk, hk, rfl, hq⟩ := hrel
        obtain ⟨q, rfl⟩ := hq.out
        by_cases hlt : k < n
        · have ca1 : w.cell? ⟨ga, k, none⟩ = some (.int .u8 ((xs.getD k 0).toNat : Int)) := HA.out k (by have := HN.out; omega)
          have cb1 : w.cell? ⟨gb, k, none⟩ = some (.int .u8 ((xs.getD k 0).toNat : Int)) := HB.out k (by have := HN.out; omega)
          generalize hy : ((xs.getD k 0).toNat : Int) = y at *
          have ca2 : (w.drewN q).cell? ⟨ga, k, none⟩ = some (.int .u8 y) := ca1
          have cb2 : (w.drewN q).cell? ⟨gb, k, none⟩ = some (.int .u8 y) := cb1
          clear hy
          go_wp2_with fail
          go_quiet (fail)
          go_wp2
          go_roundg (n - (k + 1))
          case measure => omega
          case rel => exact ⟨k + 1, rfl, hlt, by go_num, hide ⟨q + nq, rfl⟩⟩
        · have hd : decide ((k : Int) < (n : Int)) = false := by simpa using hlt
          go_wp2
          go_ret
          exact ⟨rfl, q, rfl⟩
end Go.Proofs.Qxb6614809aDoor
