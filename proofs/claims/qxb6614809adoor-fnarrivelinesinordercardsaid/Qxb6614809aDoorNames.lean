/-
  zzBytes_, zzNamesFit: they only read.
-/
import Derived.Test.Qxb6614809aDoorSpec
namespace Go.Proofs.Qxb6614809aDoor
open Go.RowKit
set_option linter.unusedVariables false

/-- A slice of slices of bytes that came in. -/
structure Names (w : World) (b off len : Nat) (A : Nat → Option Addr) (L C : Nat → Nat) (Y : Nat → List UInt8) : Prop where
  cell : ∀ r, r < len → w.cell? ⟨b, off + r, none⟩ = some (.slice (A r) (L r) (C r))
  nil : ∀ r, r < len → A r = none → L r = 0 ∧ C r = 0
  ylen : ∀ r, r < len → (Y r).length = L r
  le : ∀ r, r < len → L r ≤ C r ∧ C r ≤ maxLen
  bytes : ∀ r, r < len → ∀ a, A r = some a → ∀ j, j < L r → w.cell? (a.add j) = some (.int .u8 (((Y r).getD j 0).toNat : Int))

/-- A bool; where it is true, p. -/
structure Ans (e : Ending) (p : Prop) : Prop where
  ex : ∃ r : Bool, e = .returned (.bool r) ∧ (r = true → p)
theorem Ans.no {p : Prop} : Ans (.returned (.bool false)) p := ⟨false, rfl, fun h => by cases h⟩
theorem Ans.yes {p : Prop} (h : p) : Ans (.returned (.bool true)) p := ⟨true, rfl, fun _ => h⟩

set_option maxRecDepth 100000 in
set_option maxHeartbeats 2000000 in
theorem bytes_empty (sa : Option Addr) (cap : Nat) (x1 x2 x3 x4 x5 x6 x7 : Value) (w : World) :
    Calls Tryd.prog 4 #[.slice sa 0 cap, x1, x2, x3, x4, x5, x6, x7] w fun e w' => e = .returned (.bool true) ∧ w' = w := by
  go_enter Tryd.func4, Tryd.ntmps4
  go_wp2
  go_loop [17, 18] (fun t i => t = .int .i64 0 ∧ i = .int .i64 0) (fun _ _ => 0)
  case atStart => exact ⟨rfl, rfl⟩
  case round =>
    obtain ⟨rfl, rfl⟩ := hrel
    go_wp2
    go_ret
    exact ⟨rfl, rfl⟩

set_option maxRecDepth 100000 in
set_option maxHeartbeats 2000000 in
theorem fit_empty (sa : Option Addr) (cap : Nat) (w : World) :
    Calls Tryd.prog 5 #[.slice sa 0 cap, .int .i64 0] w fun e w' => e = .returned (.bool true) ∧ w' = w := by
  go_enter Tryd.func5, Tryd.ntmps5
  go_wp2
  go_loop [5, 6] (fun t i => t = .int .i64 0 ∧ i = .int .i64 0) (fun _ _ => 0)
  case atStart => exact ⟨rfl, rfl⟩
  case round =>
    obtain ⟨rfl, rfl⟩ := hrel
    go_wp2
    go_ret
    exact ⟨rfl, rfl⟩

set_option maxRecDepth 100000 in
set_option maxHeartbeats 4000000 in
theorem bytes_any' (b off len cap : Nat) (A : Nat → Option Addr) (L C : Nat → Nat) (Y : Nat → List UInt8) (x1 x2 x3 x4 x5 x6 x7 : Value) (w : World) (h : Names w b off len A L C Y) (hm : len ≤ 9223372036854775807) :
    Calls Tryd.prog 4 #[.slice (some ⟨b, off, none⟩) len cap, x1, x2, x3, x4, x5, x6, x7] w fun e w' => Ans e (∀ i, i < len → L i ≤ 1048576) ∧ w' = w := by
  have H := hide h
  clear h
  by_cases hbig : 1048576 < len
  · have hb' : decide ((len : Int) > 1048576) = true := by simp; omega
    go_enter Tryd.func4, Tryd.ntmps4
    go_wp2
    go_ret
    exact ⟨Ans.no, rfl⟩
  · have hb' : decide ((len : Int) > 1048576) = false := by simp; omega
    go_enter Tryd.func4, Tryd.ntmps4
    go_wp2
    go_loop [17, 18] (fun t i => ∃ (k n : Nat), k ≤ len ∧ n ≤ 1048576 ∧ t = .int .i64 n ∧ i = .int .i64 k ∧ Hid (∀ i, i < k → L i ≤ 1048576)) (fun _ i => len - (intOf i).toNat)
    case atStart => exact ⟨0, len, Nat.zero_le _, by omega, by go_num, rfl, hide (fun i hi => by omega)⟩
    case round =>
      obtain ⟨k, n, hk, hn, rfl, rfl, hL⟩ := hrel
      by_cases hlt : k < len
      · have ck := H.out.cell k hlt
        have hle := H.out.le k hlt
        have hLm : (L k : Int) ≤ 9223372036854775807 := by have := hle.1; have := hle.2; simp only [maxLen] at this; omega
        clear hle
        generalize hl : L k = l at *
        have HL := hide hl
        clear hl
        by_cases h1 : 1048576 < l
        · have h1' : decide ((l : Int) > 1048576) = true := by simp; omega
          go_wp2
          go_ret
          exact ⟨Ans.no, rfl⟩
        · have h1' : decide ((l : Int) > 1048576) = false := by simp; omega
          by_cases h2 : 1048576 < n + l
          · have h2' : decide ((n : Int) + (l : Int) > 1048576) = true := by simp; omega
            go_wp2
            go_ret
            exact ⟨Ans.no, rfl⟩
          · have h2' : decide ((n : Int) + (l : Int) > 1048576) = false := by simp; omega
            go_wp2
            go_round
            · exact ⟨k + 1, n + l, hlt, by omega, by go_num, by go_num, hide (fun i hi => by
                by_cases e : i = k
                · rw [e, HL.out]; omega
                · exact hL.out i (by omega))⟩
            · simp [intOf]; omega
      · have hd : decide ((k : Int) < (len : Int)) = false := by simpa using hlt
        go_wp2
        go_ret
        exact ⟨Ans.yes (fun i hi => hL.out i (by omega)), rfl⟩

set_option maxRecDepth 100000 in
set_option maxHeartbeats 4000000 in
theorem fit_any (b off len cap : Nat) (A : Nat → Option Addr) (L C : Nat → Nat) (Y : Nat → List UInt8) (w : World) (h : Names w b off len A L C Y) (hL : ∀ i, i < len → L i ≤ 1048576) (hm : len ≤ 9223372036854775807) :
    Calls Tryd.prog 5 #[.slice (some ⟨b, off, none⟩) len cap, .int .i64 0] w fun e w' => Ans e (len ≤ 4096) ∧ w' = w := by
  have H := hide h
  have HL := hide hL
  clear h hL
  by_cases hbig : 4096 < len
  · have hb' : decide ((len : Int) > 4096) = true := by simp; omega
    go_enter Tryd.func5, Tryd.ntmps5
    go_wp2
    go_ret
    exact ⟨Ans.no, rfl⟩
  · have hb' : decide ((len : Int) > 4096) = false := by simp; omega
    go_enter Tryd.func5, Tryd.ntmps5
    go_wp2
    go_loop [5, 6] (fun t i => ∃ (k n : Nat), k ≤ len ∧ n ≤ 1048576 ∧ t = .int .i64 n ∧ i = .int .i64 k) (fun _ i => len - (intOf i).toNat)
    case atStart => exact ⟨0, 0, Nat.zero_le _, by omega, rfl, rfl⟩
    case round =>
      obtain ⟨k, n, hk, hn, rfl, rfl⟩ := hrel
      by_cases hlt : k < len
      · have ck := H.out.cell k hlt
        have hLm := HL.out k hlt
        generalize hl : L k = l at *
        clear hl
        by_cases h2 : 1048576 < n + (24 + l)
        · have h2' : decide ((n : Int) + (24 + (l : Int)) > 1048576) = true := by simp; omega
          go_wp2
          go_ret
          exact ⟨Ans.no, rfl⟩
        · have h2' : decide ((n : Int) + (24 + (l : Int)) > 1048576) = false := by simp; omega
          go_wp2
          go_round
          · exact ⟨k + 1, n + (24 + l), hlt, by omega, by go_num, by go_num⟩
          · simp [intOf]; omega
      · have hd : decide ((k : Int) < (len : Int)) = false := by simpa using hlt
        go_wp2
        go_ret
        exact ⟨Ans.yes (by omega), rfl⟩
end Go.Proofs.Qxb6614809aDoor
