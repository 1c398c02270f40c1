/-
  (*bytes.Buffer).grow at a nil row; (*bytes.Buffer).Write.
-/
import Derived.Test.Qxb6614809aDoorBuf
namespace Go.Proofs.Qxb6614809aDoor
open Go.RowKit
set_option linter.unusedVariables false

theorem nil_nil (W : World) : (binOp .eql 29 (.slice none 0 0) (.slice none 0 0)).run Tryd.prog W = .ok (.bool true) W := Lib.run_eql_slice_nil_nil W _ _ Tryd.underlying29

set_option maxHeartbeats 4000000 in
set_option maxRecDepth 100000 in
theorem bufGrow_small (b n : Nat) (lr : Int) (w : World) (hbk : w.heap[b]? = some (.cells #[.slice none 0 0, .int .i64 0, .int .i8 lr] 37 (0, 0))) (hn : 1 ≤ n) (h64 : n ≤ 64) :
    Calls Tryd.prog 68 #[.pointer (some ⟨b, 0, none⟩), .int .i64 n] w fun e w' => e = .returned (.int .i64 0) ∧ ∃ g' cap' cur' lr', w'.heap[b]? = some (.cells #[.slice (some ⟨g', 0, none⟩) (0 + n) cap', .int .i64 0, .int .i8 lr'] 37 (0, 0)) ∧
      w'.heap[g']? = some (.cells cur' 5 (0, 0)) ∧ cur'.size = cap' ∧ 0 + n ≤ cap' ∧ cap' ≤ maxLen ∧ cur'.toList.take 0 = Lib.byteCells [] ∧ w.heap.size ≤ g' ∧ Op [b] w [b] w' := by
  obtain ⟨i0, hi, hz0, hz1, hz2⟩ := info_parts info5
  obtain ⟨M, hM⟩ : ∃ M, M = madeCells (Value.int .u8 0).cells ((64 : Int).toNat * i0.size) := ⟨_, rfl⟩
  have hMs : M.size = 64 := by rw [hM, size_madeCells, hz1]; rfl
  have hmk : ∀ W : World, (Instr.makeSlice 29 (.int .i64 (n : Int)) (.int .i64 64)).run Tryd.prog W = .ok (.slice (some ⟨W.heap.size, 0, none⟩) n 64) (W.alloc (.cells M 5)) := fun W => by
    have h := run_makeSlice (P := Tryd.prog) W 29 5 i0 (.int .u8 0) Tryd.underlying29 hi hz0 .i64 .i64 (n : Int) 64 (by omega) (by omega) (by rw [hz1]; decide) (by rw [hz2]; decide) (by decide)
    rw [← hM] at h
    simpa using h
  have hnil := nil_nil
  have c0 : w.cell? ⟨b, 0, none⟩ = some (.slice none 0 0) := by rw [cell_of_heap hbk]; rfl
  have c1 : w.cell? ⟨b, 1, none⟩ = some (.int .i64 0) := by rw [cell_of_heap hbk]; rfl
  have HL := hide (fun w c0 c1 => bufLen b none 0 0 w c0 c1 (by omega))
  have HT := hide (fun w c0 => Tryd.Buffer_tryGrow_none b none 0 0 n w c0 (Nat.le_refl _) (Nat.zero_le _) (by omega))
  have HBK := hide hbk
  have HMS := hide hMs
  clear hM hi hz0 hz1 hz2 hbk hMs
  go_enter Tryd.func68, Tryd.ntmps68
  go_wp2_with fail
  refine (HL.out _ c0 c1).mono ?_
  rintro e w0 ⟨rfl, k0, hW⟩
  clear c0 c1
  have hbk0 : w0.heap[b]? = some (.cells #[.slice none 0 0, .int .i64 0, .int .i8 lr] 37 (0, 0)) := by rw [hW]; exact HBK.out
  have hlb := lt_of_heap hbk0
  have c0 : w0.cell? ⟨b, 0, none⟩ = some (.slice none 0 0) := by rw [cell_of_heap hbk0]; rfl
  have c1 : w0.cell? ⟨b, 1, none⟩ = some (.int .i64 0) := by rw [cell_of_heap hbk0]; rfl
  have f0 : w0.frozen? ⟨b, 0, none⟩ = false := frozen_of_heap hbk0 0
  have f1 : w0.frozen? ⟨b, 1, none⟩ = false := frozen_of_heap hbk0 1
  have c0a : ∀ o, (w0.alloc o).cell? ⟨b, 0, none⟩ = some (.slice none 0 0) := fun o => (World.cell?_of_block (a := ⟨b, 0, none⟩) (Below.heap_alloc w0 o b hlb)).trans c0
  have f0a : ∀ o, (w0.alloc o).frozen? ⟨b, 0, none⟩ = false := fun o => (World.frozen?_of_block (a := ⟨b, 0, none⟩) (Below.heap_alloc w0 o b hlb)).trans f0
  have HW := hide hW
  have HB0 := hide hbk0
  clear hW hbk0
  go_wp2_with fail
  refine (HT.out _ (by exact c0)).mono ?_
  rintro e w1 ⟨rfl, rfl⟩
  go_wp2
  go_ret
  have hsz : w1.heap.size = w.heap.size := by rw [HW.out]; rfl
  have ho : Op [b] w [b] w1 := by rw [HW.out]; exact Op.drewN _ _ _
  refine ⟨rfl, w1.heap.size, 64, M, lr, ?_, ?_, HMS.out, by omega, by unfold maxLen; omega, by simp [Lib.byteCells], by omega, ho.trans ((Op.setCell (by simp) _).trans (Op.alloc _ _ _))⟩
  · rw [Below.heap_alloc _ _ _ (by simpa [World.setCell] using hlb), Lib.heap_setCell_same HB0.out]
    simp
  · have := heap_alloc_new (w1.setCell ⟨b, 0, none⟩ (.slice (some ⟨w1.heap.size, 0, none⟩) n 64)) (.cells M 5)
    simpa [World.setCell] using this

set_option maxHeartbeats 4000000 in
set_option maxRecDepth 100000 in
theorem bufGrow_big (b n : Nat) (lr : Int) (w : World) (hbk : w.heap[b]? = some (.cells #[.slice none 0 0, .int .i64 0, .int .i8 lr] 37 (0, 0))) (h64 : 64 < n) (hlim : n ≤ 1000000000) :
    Calls Tryd.prog 68 #[.pointer (some ⟨b, 0, none⟩), .int .i64 n] w fun e w' => e = .returned (.int .i64 0) ∧ ∃ g' cap' cur' lr', w'.heap[b]? = some (.cells #[.slice (some ⟨g', 0, none⟩) (0 + n) cap', .int .i64 0, .int .i8 lr'] 37 (0, 0)) ∧
      w'.heap[g']? = some (.cells cur' 5 (0, 0)) ∧ cur'.size = cap' ∧ 0 + n ≤ cap' ∧ cap' ≤ maxLen ∧ cur'.toList.take 0 = Lib.byteCells [] ∧ w.heap.size ≤ g' ∧ Op [b] w [b] w' := by
  have hnil := nil_nil
  have hlb := lt_of_heap hbk
  have c0 : w.cell? ⟨b, 0, none⟩ = some (.slice none 0 0) := by rw [cell_of_heap hbk]; rfl
  have c1 : w.cell? ⟨b, 1, none⟩ = some (.int .i64 0) := by rw [cell_of_heap hbk]; rfl
  have f0 : w.frozen? ⟨b, 0, none⟩ = false := frozen_of_heap hbk 0
  have f1 : w.frozen? ⟨b, 1, none⟩ = false := frozen_of_heap hbk 1
  have hwn : IntKind.i64.wrap (n : Int) = n := by rw [IntKind.wrap_i64]; omega
  have HL := hide (fun w c0 c1 => bufLen b none 0 0 w c0 c1 (by omega))
  have HT := hide (fun w c0 => Tryd.Buffer_tryGrow_none b none 0 0 n w c0 (Nat.le_refl _) (Nat.zero_le _) (by omega))
  have HG := hide (fun w => Tryd.bytes_growSlice_nil n w (by omega) (by omega))
  have HBK := hide hbk
  clear hbk
  go_enter Tryd.func68, Tryd.ntmps68
  go_wp2_with fail
  refine (HL.out _ c0 c1).mono ?_
  rintro e w0 ⟨rfl, k0, rfl⟩
  go_wp2_with fail
  refine (HT.out _ (by exact c0)).mono ?_
  rintro e w1 ⟨rfl, rfl⟩
  go_wp2_with fail
  go_region_with
    (first | (go_at_call 70; refine (HG.out _).mono ?_; rintro e w2 ⟨cap2, cells, rfl, hN, hcsz, hcap2, hcm2, hbel⟩; have d0 : w2.cell? ⟨b, 0, none⟩ = some (.slice none 0 0) := (hbel.cell (p := ⟨b, 0, none⟩) (by exact hlb)).trans (by exact c0); have d1 : w2.cell? ⟨b, 1, none⟩ = some (.int .i64 0) := (hbel.cell (p := ⟨b, 1, none⟩) (by exact hlb)).trans (by exact c1); have e0 : w2.frozen? ⟨b, 0, none⟩ = false := (hbel.frozen (p := ⟨b, 0, none⟩) (by exact hlb)).trans (by exact f0); have e1 : w2.frozen? ⟨b, 1, none⟩ = false := (hbel.frozen (p := ⟨b, 1, none⟩) (by exact hlb)).trans (by exact f1)))
  all_goals go_wp2
  all_goals go_ret
  all_goals exact ⟨rfl, by have q := grow_fin (l := 0) (n := n) (cur := cells) (bs := []) HBK.out hN hcsz rfl (by simp [Lib.byteCells]) (by omega) hcm2 hbel (.slice (some ⟨w.heap.size, 0, none⟩) 0 cap2); simp only [Nat.zero_add] at q ⊢; exact q⟩
end Go.Proofs.Qxb6614809aDoor
