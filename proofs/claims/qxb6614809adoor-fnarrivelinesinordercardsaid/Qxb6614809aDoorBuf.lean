/-
  (*bytes.Buffer).Write with its exact frame: the buffer's own block, its row, new blocks; nothing else.
-/
import Derived.Test.Qxb6614809aDoorTexts
import Derived.Laws.CopyRow
import Derived.Deep.RegionWith
import Derived.Deep.DrawnRows
import Derived.Laws.IdiomCopy
import Derived.Lib.BufferWrite
namespace Go.Proofs.Qxb6614809aDoor
open Go.RowKit
set_option linter.unusedVariables false

theorem cell_of_heap {w : World} {b : Nat} {c : Array Value} {t : TypeId} (h : w.heap[b]? = some (.cells c t (0, 0))) (j : Nat) : w.cell? ⟨b, j, none⟩ = c[j]? := Lib.cell_of_heap h j
theorem frozen_of_heap {w : World} {b : Nat} {c : Array Value} {t : TypeId} (h : w.heap[b]? = some (.cells c t (0, 0))) (j : Nat) : w.frozen? ⟨b, j, none⟩ = false := Lib.frozen_of_heap h j
theorem lt_of_heap {w : World} {b : Nat} {o : Obj} (h : w.heap[b]? = some o) : b < w.heap.size := (Array.getElem?_eq_some_iff.1 h).1

/-- (*bytes.Buffer).Len. -/
theorem bufLen (b : Nat) (a : Option Addr) (l cap : Nat) (w : World) (c0 : w.cell? ⟨b, 0, none⟩ = some (.slice a l cap)) (c1 : w.cell? ⟨b, 1, none⟩ = some (.int .i64 0)) (hl : l ≤ 1000000000) :
    Calls Tryd.prog 69 #[.pointer (some ⟨b, 0, none⟩)] w fun e w' => e = .returned (.int .i64 l) ∧ ∃ n, w' = w.drewN n := by
  go_enter Tryd.func69, Tryd.ntmps69
  go_wp2
  go_quiet (fail)
  go_wp2
  go_ret
  exact ⟨rfl, _, rfl⟩

theorem nil_slice (g l cap : Nat) (W : World) : (binOp .eql 29 (.slice (some ⟨g, 0, none⟩) l cap) (.slice none 0 0)).run Tryd.prog W = .ok (.bool false) W := Lib.run_eql_slice_some_nil W _ _ _ Tryd.underlying29

/-- What growSlice and the three stores behind it leave. -/
theorem grow_fin {w w2 : World} {b l n cap2 k : Nat} {v0 : Value} {lr : Int} {cells cur : Array Value} {bs : List UInt8} (hb : w.heap[b]? = some (.cells #[v0, .int .i64 0, .int .i8 lr] 37 (0, 0)))
    (hN : w2.heap[(w.drewN k).heap.size]? = some (.cells cells 5 (0, 0))) (hcsz : cells.size = cap2) (htk : cells.toList.take l = cur.toList.take l) (htk2 : cur.toList.take l = Lib.byteCells bs) (hcap2 : l + n ≤ cap2) (hcm2 : cap2 ≤ maxLen)
    (hbel : Below (w.drewN k).heap.size (w.drewN k) w2) (x : Value) :
    ∃ (g' cap' : Nat) (cur' : Array Value) (lr' : Int), (((w2.setCell ⟨b, 0, none⟩ x).setCell ⟨b, 1, none⟩ (.int .i64 0)).setCell ⟨b, 0, none⟩ (.slice (some ⟨w.heap.size, 0, none⟩) (l + n) cap2)).heap[b]? = some (.cells #[.slice (some ⟨g', 0, none⟩) (l + n) cap', .int .i64 0, .int .i8 lr'] 37 (0, 0)) ∧
      (((w2.setCell ⟨b, 0, none⟩ x).setCell ⟨b, 1, none⟩ (.int .i64 0)).setCell ⟨b, 0, none⟩ (.slice (some ⟨w.heap.size, 0, none⟩) (l + n) cap2)).heap[g']? = some (.cells cur' 5 (0, 0)) ∧ cur'.size = cap' ∧ l + n ≤ cap' ∧ cap' ≤ maxLen ∧ cur'.toList.take l = Lib.byteCells bs ∧ w.heap.size ≤ g' ∧
      Op [b] w [b] (((w2.setCell ⟨b, 0, none⟩ x).setCell ⟨b, 1, none⟩ (.int .i64 0)).setCell ⟨b, 0, none⟩ (.slice (some ⟨w.heap.size, 0, none⟩) (l + n) cap2)) := by
  have hlt : b < w.heap.size := lt_of_heap hb
  have hb2 : w2.heap[b]? = some (.cells #[v0, .int .i64 0, .int .i8 lr] 37 (0, 0)) := (hbel.block b hlt).trans hb
  have ho : Op [b] w [b] w2 := ⟨hbel.os, hbel.tape, hbel.output, hbel.size, fun j hj _ => hbel.block j hj, fun _ h => .inl h⟩
  have hs := fun (W : World) (i : Nat) (u : Value) => (Op.setCell (X := [b]) (w := W) (a := ⟨b, i, none⟩) (by simp) u)
  refine ⟨w.heap.size, cap2, cells, lr, ?_, ?_, hcsz, hcap2, hcm2, htk.trans htk2, Nat.le_refl _, ho.trans ((hs _ _ _).trans ((hs _ _ _).trans (hs _ _ _)))⟩
  · rw [Lib.heap_setCell_same (Lib.heap_setCell_same (Lib.heap_setCell_same hb2 _) _)]
    simp
  · rw [Below.heap_setCell _ _ _ _ (by simp; omega), Below.heap_setCell _ _ _ _ (by simp; omega), Below.heap_setCell _ _ _ _ (by simp; omega)]
    exact hN

set_option maxHeartbeats 4000000 in
set_option maxRecDepth 100000 in
/-- grow, where the buffer holds a row that has no room: a new row. -/
theorem bufGrow_row (b g l cap n : Nat) (lr : Int) (cur : Array Value) (bs : List UInt8) (w : World) (hbk : w.heap[b]? = some (.cells #[.slice (some ⟨g, 0, none⟩) l cap, .int .i64 0, .int .i8 lr] 37 (0, 0)))
    (hl : bs.length = l) (hg : w.heap[g]? = some (.cells cur 5 (0, 0))) (hlc : l ≤ cap) (hcm : cap ≤ maxLen) (hcs : cur.size = cap) (htake : cur.toList.take l = Lib.byteCells bs) (hn : 1 ≤ n) (hroom : cap - l < n) (hlim : l + n ≤ 1000000000) :
    Calls Tryd.prog 68 #[.pointer (some ⟨b, 0, none⟩), .int .i64 n] w fun e w' => e = .returned (.int .i64 l) ∧ ∃ g' cap' cur' lr', w'.heap[b]? = some (.cells #[.slice (some ⟨g', 0, none⟩) (l + n) cap', .int .i64 0, .int .i8 lr'] 37 (0, 0)) ∧
      w'.heap[g']? = some (.cells cur' 5 (0, 0)) ∧ cur'.size = cap' ∧ l + n ≤ cap' ∧ cap' ≤ maxLen ∧ cur'.toList.take l = Lib.byteCells bs ∧ w.heap.size ≤ g' ∧ Op [b] w [b] w' := by
  have hnil := fun W => nil_slice g l cap W
  have hlb := lt_of_heap hbk
  have c0 : w.cell? ⟨b, 0, none⟩ = some (.slice (some ⟨g, 0, none⟩) l cap) := by rw [cell_of_heap hbk]; rfl
  have c1 : w.cell? ⟨b, 1, none⟩ = some (.int .i64 0) := by rw [cell_of_heap hbk]; rfl
  have f0 : w.frozen? ⟨b, 0, none⟩ = false := frozen_of_heap hbk 0
  have f1 : w.frozen? ⟨b, 1, none⟩ = false := frozen_of_heap hbk 1
  have h1' : ∀ v ∈ cur.toList.take l, v.oneCell' = true := by rw [htake]; exact Lib.byteCells_one _
  have hcm' := hcm
  unfold maxLen at hcm'
  have hwn : IntKind.i64.wrap (n : Int) = n := by rw [IntKind.wrap_i64]; omega
  have HL := hide (fun w c0 c1 => bufLen b (some ⟨g, 0, none⟩) l cap w c0 c1 (by omega))
  have HT := hide (fun w c0 => Tryd.Buffer_tryGrow_none b (some ⟨g, 0, none⟩) l cap n w c0 hlc hcm hroom)
  have HG := hide (fun w hg => Tryd.bytes_growSlice_row g l cap n cur w hg hcs hlc hn (by omega) (by omega) h1')
  have HTK := hide htake
  have HGG := hide hg
  have HBK := hide hbk
  clear h1' htake hcs hg hbk hcm
  go_enter Tryd.func68, Tryd.ntmps68
  go_wp2_with fail
  refine (HL.out _ c0 c1).mono ?_
  rintro e w0 ⟨rfl, k0, rfl⟩
  have hcase : ((l : Int) == 0) = true ∨ ((l : Int) == 0) = false := by cases ((l : Int) == 0) <;> simp
  rcases hcase with hlz | hlz
  all_goals
    go_wp2_with fail
    refine (HT.out _ (by exact c0)).mono ?_
    rintro e w1 ⟨rfl, rfl⟩
    go_wp2_with fail
    go_region_with
      (first | (go_at_call 70; refine (HG.out _ (by exact HGG.out)).mono ?_; rintro e w2 ⟨cap2, cells, rfl, hN, hcsz, htk, hcap2, hcm2, hbel⟩; have d0 : w2.cell? ⟨b, 0, none⟩ = some (.slice (some ⟨g, 0, none⟩) l cap) := (hbel.cell (p := ⟨b, 0, none⟩) (by exact hlb)).trans (by exact c0); have d1 : w2.cell? ⟨b, 1, none⟩ = some (.int .i64 0) := (hbel.cell (p := ⟨b, 1, none⟩) (by exact hlb)).trans (by exact c1); have e0 : w2.frozen? ⟨b, 0, none⟩ = false := (hbel.frozen (p := ⟨b, 0, none⟩) (by exact hlb)).trans (by exact f0); have e1 : w2.frozen? ⟨b, 1, none⟩ = false := (hbel.frozen (p := ⟨b, 1, none⟩) (by exact hlb)).trans (by exact f1)))
    all_goals go_wp2
    all_goals go_ret
    all_goals exact ⟨rfl, grow_fin HBK.out hN hcsz htk HTK.out hcap2 hcm2 hbel _⟩
end Go.Proofs.Qxb6614809aDoor
