/-
  bufio.NewWriterSize, NewWriter, ZZnewLog.
-/
import Derived.Test.Qxb6614809aDoorArrive
namespace Go.Proofs.Qxb6614809aDoor
open Go.RowKit
set_option linter.unusedVariables false

theorem as33 (v : Value) (w : World) : (Instr.typeAssert (.iface 33 v) 64 40 true).run Tryd.prog w = .ok (.tuple #[.pointer none, .bool false]) w := by kernel_rfl


theorem info29 : (Tryd.prog.info? 29).map (fun i => (i.zero, i.size, i.bytes)) = some (some (.slice none 0 0), 1, 24) := by kernel_rfl

theorem make29 (n : Nat) (w : World) (hn : n ≤ 1000000000) : (Instr.makeSlice 29 (.int .i64 (n : Int)) (.int .i64 (n : Int))).run Tryd.prog w = .ok (.slice (some ⟨w.heap.size, 0, none⟩) n n) (w.alloc (.cells (madeCells #[.int .u8 0] n) 5)) := by
  obtain ⟨i, hi, hzz⟩ := Option.map_eq_some_iff.1 info5
  simp only [Prod.mk.injEq] at hzz
  obtain ⟨z0, z1, z2⟩ := hzz
  have h := run_make (P := Tryd.prog) w 29 5 i (.int .u8 0) Tryd.underlying29 hi z0 .i64 .i64 (n : Int) n (by omega) (by omega) (by rw [z2]; omega) (by omega)
  rw [z1] at h
  simpa [Value.cells] using h
theorem make22 (n : Nat) (w : World) (hn : n ≤ 1000000000) : (Instr.makeSlice 22 (.int .i64 (n : Int)) (.int .i64 (n : Int))).run Tryd.prog w = .ok (.slice (some ⟨w.heap.size, 0, none⟩) n n) (w.alloc (.cells (madeCells #[.slice none 0 0] n) 29)) := by
  obtain ⟨i, hi, hzz⟩ := Option.map_eq_some_iff.1 info29
  simp only [Prod.mk.injEq] at hzz
  obtain ⟨z0, z1, z2⟩ := hzz
  have h := run_make (P := Tryd.prog) w 22 29 i (.slice none 0 0) Tryd.underlying22 hi z0 .i64 .i64 (n : Int) n (by omega) (by omega) (by rw [z2]; omega) (by omega)
  rw [z1] at h
  simpa [Value.cells] using h
theorem alloc_heap (w : World) (o : Obj) : (w.alloc o).heap = w.heap.push o := rfl
theorem make4096 (w : World) : (Instr.makeSlice 29 (.int .i64 4096) (.int .i64 4096)).run Tryd.prog w = .ok (.slice (some ⟨w.heap.size, 0, none⟩) 4096 4096) (w.alloc (.cells (madeCells #[.int .u8 0] 4096) 5)) := make29 4096 w (by decide)

set_option maxRecDepth 100000 in
set_option maxHeartbeats 2000000 in
theorem newWriterSize_any (bB : Nat) (w : World) :
    Calls Tryd.prog 17 #[.iface 33 (.pointer (some ⟨bB, 0, none⟩)), .int .i64 4096] w fun e w' => e = .returned (.pointer (some ⟨w.heap.size + 1, 0, none⟩)) ∧ w' = (w.alloc (.cells (madeCells #[.int .u8 0] 4096) 5)).alloc (.cells #[.nilIface, .slice (some ⟨w.heap.size, 0, none⟩) 4096 4096, .int .i64 0, .iface 33 (.pointer (some ⟨bB, 0, none⟩))] 71) := by
  have a33 := as33
  have m4096 := make4096
  go_enter Tryd.func17, Tryd.ntmps17
  go_wp2
  go_ret
  refine ⟨?_, rfl⟩
  simp

set_option maxRecDepth 100000 in
set_option maxHeartbeats 2000000 in
theorem newWriter_any (bB : Nat) (w : World) :
    Calls Tryd.prog 12 #[.iface 33 (.pointer (some ⟨bB, 0, none⟩))] w fun e w' => e = .returned (.pointer (some ⟨w.heap.size + 1, 0, none⟩)) ∧ w' = (w.alloc (.cells (madeCells #[.int .u8 0] 4096) 5)).alloc (.cells #[.nilIface, .slice (some ⟨w.heap.size, 0, none⟩) 4096 4096, .int .i64 0, .iface 33 (.pointer (some ⟨bB, 0, none⟩))] 71) := by
  have HC := hide (newWriterSize_any bB w)
  go_enter Tryd.func12, Tryd.ntmps12
  go_wp2_with fail
  refine HC.out.mono ?_
  rintro e w6 ⟨rfl, rfl⟩
  go_wp2
  go_ret
  exact ⟨rfl, rfl⟩

/-- A new writer over an empty buffer. -/
theorem IsWr.new {wB dB bB : Nat} {w : World} (h1 : w.heap[wB]? = some (.cells #[.nilIface, .slice (some ⟨dB, 0, none⟩) 4096 4096, .int .i64 0, .iface 33 (.pointer (some ⟨bB, 0, none⟩))] 71 (0, 0)))
    (h2 : w.heap[dB]? = some (.cells (madeCells #[.int .u8 0] 4096) 5 (0, 0))) (h3 : w.heap[bB]? = some (.cells #[.slice none 0 0, .int .i64 0, .int .i8 0] 37 (0, 0))) (n1 : wB ≠ dB) (n2 : wB ≠ bB) (n3 : dB ≠ bB) : IsWr [wB, dB, bB] wB bB [] w := by
  refine ⟨dB, [bB], madeCells #[.int .u8 0] 4096, [], [], ⟨h1, h2, size_madeCells _ _, by simp, by simp [Lib.byteCells], ⟨_, _, h3, Row.nil _, by simp [fp, Value.ownBlock], by simp [fp, Value.ownBlock]⟩, n1, by simpa using n2, by simpa using n3⟩, rfl, rfl⟩

theorem newLog_end (nv : Value) (p : Int) (n : Nat) (w W : World) (hn : w.heap.size = n) (hO : Op [] w [] W) (b0 : W.heap[n]? = some (.cells #[.slice none 0 0, .int .i64 0, .int .i8 0] 37 (0, 0))) (b1 : W.heap[n + 1]? = some (.cells #[.slice none 0 0, .int .i64 0, .int .i8 0] 37 (0, 0)))
    (b2 : W.heap[n + 2]? = some (.cells (madeCells #[.int .u8 0] 4096) 5 (0, 0))) (b3 : W.heap[n + 3]? = some (.cells #[.nilIface, .slice (some ⟨n + 2, 0, none⟩) 4096 4096, .int .i64 0, .iface 33 (.pointer (some ⟨n, 0, none⟩))] 71 (0, 0)))
    (b4 : W.heap[n + 4]? = some (.cells #[.pointer (some ⟨n + 3, 0, none⟩), .slice none 0 0] 43 (0, 0)))
    (b5 : W.heap[n + 5]? = some (.cells (madeCells #[.int .u8 0] 4096) 5 (0, 0))) (b6 : W.heap[n + 6]? = some (.cells #[.nilIface, .slice (some ⟨n + 5, 0, none⟩) 4096 4096, .int .i64 0, .iface 33 (.pointer (some ⟨n + 1, 0, none⟩))] 71 (0, 0)))
    (b7 : W.heap[n + 7]? = some (.cells #[.pointer (some ⟨n + 6, 0, none⟩), .int .i64 p, nv, .slice none 0 0, .slice none 0 0, .int .i64 0, .int .i64 0, .slice none 0 0] 48 (0, 0)))
    (b8 : W.heap[n + 8]? = some (.cells #[.pointer (some ⟨n + 4, 0, none⟩), .pointer (some ⟨n + 7, 0, none⟩), .int .i64 0, .int .u8 0, .int .i64 0, .int .i64 0, .int .i64 0, .int .i64 0, .int .i64 0, .slice none 0 0, nv] 54 (0, 0)))
    (b9 : W.heap[n + 9]? = some (.cells #[.pointer (some ⟨n + 8, 0, none⟩), .pointer (some ⟨n, 0, none⟩), .pointer (some ⟨n + 1, 0, none⟩)] 56 (0, 0))) :
    ∃ d : LogD, (.returned (.pointer (some ⟨n + 9, 0, none⟩)) : Ending) = .returned (.pointer (some ⟨d.z, 0, none⟩)) ∧ IsLog d W ∧ d.nv = nv ∧ d.noP = p ∧ d.m = 0 ∧ d.out = [] ∧ d.outT = [] ∧ Op [] w d.foot W := by
  have f0 : fp (.slice none 0 0) = [] := rfl
  have hs := lt_of_heap b9
  refine ⟨{ z := n + 9, E := n + 8, lB := n + 4, tB := n + 7, wL := n + 3, bL := n, wT := n + 6, bT := n + 1, m := 0, YL := [n + 4, n + 3, n + 2, n], XL := [n + 3, n + 2, n], YT := [n + 7, n + 6, n + 5, n + 1], XT := [n + 6, n + 5, n + 1], lv := .slice none 0 0, gv := .slice none 0 0, ev := .slice none 0 0, fv := .slice none 0 0, nv := nv, lx := [], ex := [], fx := [], out := [], outT := [], noP := p, x2 := .int .i64 0, x3 := .int .u8 0, x4 := .int .i64 0, x5 := .int .i64 0, x6 := .int .i64 0, x7 := .int .i64 0, x8 := .int .i64 0 }, rfl, ?_, rfl, rfl, rfl, rfl, rfl, ?_⟩
  · refine ⟨b9, b8, ⟨b4, Row.nil _, IsWr.new b3 b2 b0 (by omega) (by omega) (by omega), by simp [f0], by simp, by simp [f0], by simp [f0]⟩, ⟨b7, ⟨_, World.ownsRow_nil _ _ _ _⟩, Row.nil _, IsWr.new b6 b5 b1 (by omega) (by omega) (by omega), by simp [f0], by simp [f0], by simp, by simp [f0], by simp [f0], by simp [f0], by simp [f0]⟩, Row.nil _, ?_, ?_, ?_, ?_, ?_, ?_, ?_, ?_, ?_, ?_⟩ <;> simp [f0]
  · refine ⟨hO.os, hO.tape, hO.output, hO.size, hO.block, fun k hk => .inr ?_⟩
    simp [LogD.foot, f0] at hk
    omega

set_option maxRecDepth 100000 in
set_option maxHeartbeats 2000000 in
theorem newLog_any (nB nn c : Nat) (p : Int) (w : World) :
    Calls Tryd.prog 7 #[.slice (some ⟨nB, 0, none⟩) nn c, .int .i64 p] w fun e w' => ∃ d : LogD, e = .returned (.pointer (some ⟨d.z, 0, none⟩)) ∧ IsLog d w' ∧ d.nv = .slice (some ⟨nB, 0, none⟩) nn c ∧ d.noP = p ∧ d.m = 0 ∧ d.out = [] ∧ d.outT = [] ∧ Op [] w d.foot w' := by
  obtain ⟨n, hn⟩ : ∃ n, w.heap.size = n := ⟨_, rfl⟩
  go_enter Tryd.func7, Tryd.ntmps7
  go_wp2_with fail
  refine (newWriter_any _ _).mono ?_
  rintro e w1 ⟨rfl, rfl⟩
  go_wp2_with fail
  refine (newWriter_any _ _).mono ?_
  rintro e w2 ⟨rfl, rfl⟩
  go_wp2
  go_ret
  have ho := fun (W : World) (o : Obj) => Op.alloc [] W o
  refine newLog_end (.slice (some ⟨nB, 0, none⟩) nn c) p n w _ hn ?_ ?_ ?_ ?_ ?_ ?_ ?_ ?_ ?_ ?_ ?_
  · exact (ho _ _).trans ((ho _ _).trans ((ho _ _).trans ((ho _ _).trans ((ho _ _).trans ((ho _ _).trans ((ho _ _).trans ((ho _ _).trans ((ho _ _).trans (ho _ _)))))))))
  all_goals (simp only [alloc_heap, Array.getElem?_push, Array.size_push, hn, Nat.add_assoc, Nat.reduceAdd]; simp)
end Go.Proofs.Qxb6614809aDoor
