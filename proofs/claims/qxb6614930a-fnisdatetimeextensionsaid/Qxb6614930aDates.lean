/-
  The functions on FnIsDatetimeExtension's road.
-/
import Derived.Test.Qxb6614930aLeaves
import Derived.LoopN
import Derived.Laws.BytesArg
import Derived.Deep.RegionWith
namespace Go.Proofs.Qxb6614930a
open Go.RowKit
set_option linter.unusedVariables false

theorem mk4 (w : World) : (Instr.makeSlice 38 (.int .i64 4) (.int .i64 4)).run Try.prog w = .ok (.slice (some ⟨w.heap.size, 0, none⟩) 4 4) (w.alloc (.cells #[.int .u8 0, .int .u8 0, .int .u8 0, .int .u8 0] 5)) := by kernel_rfl
theorem mk2 (w : World) : (Instr.makeSlice 38 (.int .i64 2) (.int .i64 2)).run Try.prog w = .ok (.slice (some ⟨w.heap.size, 0, none⟩) 2 2) (w.alloc (.cells #[.int .u8 0, .int .u8 0] 5)) := by kernel_rfl

set_option maxHeartbeats 800000 in
theorem zzPad2 (n : Int) (h0 : 0 ≤ n) (h1 : n ≤ 99) (w : World) :
    Calls Try.prog 30 #[.int .i64 n, .int .i64 2] w fun e w' => e = .returned (.string (strOfNums [48 + n / 10 % 10, 48 + n % 10])) ∧ Grown w w' := by
  have hmk := mk2
  have hcv := run_convert_bytes_arg (P := Try.prog) (w.alloc (.cells #[.int .u8 (48 + n / 10 % 10), .int .u8 (48 + n % 10)] 5)) 38 5 Try.underlying38 Try.underlying5 w.heap.size 0 2 2 [48 + n / 10 % 10, 48 + n % 10] rfl
    (fun i hi => by
      rw [Nat.zero_add, World.cell?_alloc_new]
      match i, hi with
      | 0, _ => rfl
      | 1, _ => rfl) 9 Try.underlying9
  go_enter Try.func30, Try.ntmps30
  go_wp2
  refine wp_loop_rounds 3 ?_
  rw [rounds_succ]
  go_wp2
  rw [rounds_succ]
  go_wp2
  rw [rounds_succ]
  go_wp2
  go_ret
  exact ⟨rfl, (Grown.refl _).alloc _ _⟩

set_option maxHeartbeats 800000 in
theorem zzPad4 (n : Int) (h0 : 0 ≤ n) (h1 : n ≤ 9999) (w : World) :
    Calls Try.prog 30 #[.int .i64 n, .int .i64 4] w fun e w' => e = .returned (.string (strOfNums [48 + n / 10 / 10 / 10 % 10, 48 + n / 10 / 10 % 10, 48 + n / 10 % 10, 48 + n % 10])) ∧ Grown w w' := by
  have hmk := mk4
  have hcv := run_convert_bytes_arg (P := Try.prog) (w.alloc (.cells #[.int .u8 (48 + n / 10 / 10 / 10 % 10), .int .u8 (48 + n / 10 / 10 % 10), .int .u8 (48 + n / 10 % 10), .int .u8 (48 + n % 10)] 5)) 38 5 Try.underlying38 Try.underlying5 w.heap.size 0 4 4 [48 + n / 10 / 10 / 10 % 10, 48 + n / 10 / 10 % 10, 48 + n / 10 % 10, 48 + n % 10] rfl
    (fun i hi => by
      rw [Nat.zero_add, World.cell?_alloc_new]
      match i, hi with
      | 0, _ => rfl
      | 1, _ => rfl
      | 2, _ => rfl
      | 3, _ => rfl) 9 Try.underlying9
  go_enter Try.func30, Try.ntmps30
  go_wp2
  refine wp_loop_rounds 5 ?_
  rw [rounds_succ]
  go_wp2
  rw [rounds_succ]
  go_wp2
  rw [rounds_succ]
  go_wp2
  rw [rounds_succ]
  go_wp2
  rw [rounds_succ]
  go_wp2
  go_ret
  exact ⟨rfl, (Grown.refl _).alloc _ _⟩

/-- The bytes of s up to place k, by place value. -/
def numAt (s : ByteArray) : Nat → Int
  | 0 => 0
  | k + 1 => numAt s k * 10 + (at_ s k - 48)
theorem at_bd (s : ByteArray) (k : Nat) : 0 ≤ at_ s k ∧ at_ s k ≤ 255 := by
  unfold at_
  have := (s.data.toList.getD k 0).toNat_lt
  omega
theorem numAt_bd (s : ByteArray) (k : Nat) (hk : k ≤ 4) : -100000000 ≤ numAt s k ∧ numAt s k ≤ 100000000 := by
  have b0 := at_bd s 0; have b1 := at_bd s 1; have b2 := at_bd s 2; have b3 := at_bd s 3
  match k, hk with
  | 0, _ => simp [numAt]
  | 1, _ => simp [numAt]; omega
  | 2, _ => simp [numAt]; omega
  | 3, _ => simp [numAt]; omega
  | 4, _ => simp [numAt]; omega

set_option maxHeartbeats 800000 in
theorem zzNumber2 (s : ByteArray) (hs : s.size = 2) (w : World) :
    Calls Try.prog 29 #[.string s] w fun e w' => e = .returned (.int .i64 (numAt s 2)) ∧ w' = w := by
  go_enter Try.func29, Try.ntmps29
  go_wp2
  go_loop [3, 4] (fun t i => ∃ (k : Nat) (n : Int), k ≤ 2 ∧ i = .int .i64 k ∧ t = .int .i64 n ∧ Hid (n = numAt s k) ∧ -100000000 ≤ n ∧ n ≤ 100000000) (fun _ i => 2 - (intOf i).toNat)
  case atStart => exact ⟨0, 0, Nat.zero_le _, rfl, rfl, rfl, by omega, by omega⟩
  case round =>
    obtain ⟨k, n, hk, rfl, rfl, HN, hn1, hn2⟩ := hrel
    by_cases hlt : k < 2
    · have hl : k < s.size := by omega
      have hbd := numAt_bd s (k + 1) (by omega)
      have HE : Hid (n * 10 + ((s[k].toNat : Int) - 48) = numAt s (k + 1)) := by
        show n * 10 + ((s[k].toNat : Int) - 48) = numAt s (k + 1)
        rw [HN.out, ← at_eq s k hl]; rfl
      have HB : Hid (-100000000 ≤ numAt s (k + 1) ∧ numAt s (k + 1) ≤ 100000000) := hbd
      have hc : (s[k].toNat : Int) ≤ 255 := by have := s[k].toNat_lt; omega
      clear hbd
      go_wp2
      go_round
      case rel => exact ⟨k + 1, _, by omega, by go_num, rfl, HE.out, by rw [HE.out]; exact HB.out.1, by rw [HE.out]; exact HB.out.2⟩
      case measure => simp [intOf]; omega
    · obtain rfl : k = 2 := by omega
      go_wp2
      go_ret
      exact ⟨ret_int HN.out, rfl⟩

set_option maxHeartbeats 800000 in
theorem zzNumber4 (s : ByteArray) (hs : s.size = 4) (w : World) :
    Calls Try.prog 29 #[.string s] w fun e w' => e = .returned (.int .i64 (numAt s 4)) ∧ w' = w := by
  go_enter Try.func29, Try.ntmps29
  go_wp2
  go_loop [3, 4] (fun t i => ∃ (k : Nat) (n : Int), k ≤ 4 ∧ i = .int .i64 k ∧ t = .int .i64 n ∧ Hid (n = numAt s k) ∧ -100000000 ≤ n ∧ n ≤ 100000000) (fun _ i => 4 - (intOf i).toNat)
  case atStart => exact ⟨0, 0, Nat.zero_le _, rfl, rfl, rfl, by omega, by omega⟩
  case round =>
    obtain ⟨k, n, hk, rfl, rfl, HN, hn1, hn2⟩ := hrel
    by_cases hlt : k < 4
    · have hl : k < s.size := by omega
      have hbd := numAt_bd s (k + 1) (by omega)
      have HE : Hid (n * 10 + ((s[k].toNat : Int) - 48) = numAt s (k + 1)) := by
        show n * 10 + ((s[k].toNat : Int) - 48) = numAt s (k + 1)
        rw [HN.out, ← at_eq s k hl]; rfl
      have HB : Hid (-100000000 ≤ numAt s (k + 1) ∧ numAt s (k + 1) ≤ 100000000) := hbd
      have hc : (s[k].toNat : Int) ≤ 255 := by have := s[k].toNat_lt; omega
      clear hbd
      go_wp2
      go_round
      case rel => exact ⟨k + 1, _, by omega, by go_num, rfl, HE.out, by rw [HE.out]; exact HB.out.1, by rw [HE.out]; exact HB.out.2⟩
      case measure => simp [intOf]; omega
    · obtain rfl : k = 4 := by omega
      go_wp2
      go_ret
      exact ⟨ret_int HN.out, rfl⟩

end Go.Proofs.Qxb6614930a
