/-
  (*bufio.Writer).Flush over a bytes.Buffer.
-/
import Derived.Test.Qxb6614809aDoorBuf4
namespace Go.Proofs.Qxb6614809aDoor
open Go.RowKit
set_option linter.unusedVariables false

/-- Block wB is a bufio.Writer without error over the bytes.Buffer of block bB; its 4096 bytes lie in block dB; what has been written: head (in the Buffer), tail (not yet flushed). -/
structure Wr (wB dB bB : Nat) (XB : List Nat) (cur : Array Value) (head tail : List UInt8) (w : World) : Prop where
  blk : w.heap[wB]? = some (.cells #[.nilIface, .slice (some ⟨dB, 0, none⟩) 4096 4096, .int .i64 (tail.length : Int), .iface 33 (.pointer (some ⟨bB, 0, none⟩))] 71 (0, 0))
  row : w.heap[dB]? = some (.cells cur 5 (0, 0))
  size : cur.size = 4096
  fit : tail.length ≤ 4096
  take : cur.toList.take tail.length = Lib.byteCells tail
  buf : IsBuf bB XB head w
  ne1 : wB ≠ dB
  ne2 : wB ∉ XB
  ne3 : dB ∉ XB

theorem Wr.kept {wB dB bB : Nat} {XB : List Nat} {cur : Array Value} {head tail : List UInt8} {w w' : World} (h : Wr wB dB bB XB cur head tail w) (hb : ∀ k ∈ wB :: dB :: XB, w'.heap[k]? = w.heap[k]?) : Wr wB dB bB XB cur head tail w' :=
  ⟨by rw [hb wB (by simp)]; exact h.blk, by rw [hb dB (by simp)]; exact h.row, h.size, h.fit, h.take, h.buf.kept fun k hk => hb k (by simp [hk]), h.ne1, h.ne2, h.ne3⟩
theorem Wr.lt {wB dB bB : Nat} {XB : List Nat} {cur : Array Value} {head tail : List UInt8} {w : World} (h : Wr wB dB bB XB cur head tail w) : ∀ k ∈ wB :: dB :: XB, k < w.heap.size := by
  intro k hk
  simp at hk
  rcases hk with rfl | rfl | hk
  · exact lt_of_heap h.blk
  · exact lt_of_heap h.row
  · exact h.buf.lt k hk

/-! ### A method called on an interface value whose dynamic type is known -/
theorem cm_write (b : Nat) (y : Value) (w : World) : (callMethod (.iface 33 (.pointer (some ⟨b, 0, none⟩))) "Write" #[y]).run Tryd.prog w = .ok (.enter 66 #[.pointer (some ⟨b, 0, none⟩), y]) w := by kernel_rfl
section
variable {P : Program} {w : World}
theorem wp_invoke {o : Oper} {a : Act} {K : Act → World → Prop} {Q : Exit → Act → World → Prop} (recv x : Operand) (name : String) (u : TypeId) (ho : o.op = .call { callee := .invoke recv name, args := #[x], argTypes := #[u] }) (r y : Value) (hs : a.eval recv = r) (hx : a.eval x = y) (f : FuncId) (args : Array Value)
   (hcm : (callMethod r name #[y]).run P w = .ok (.enter f args) w)
   (h : Calls P f args w fun e w' => ∃ v, e = .returned v ∧ K (a.put o.dst v) w') : o.wp P a w K Q := by
  unfold Oper.wp execOp
  have e1 : (#[r] ++ #[y])[0]? = some r := rfl
  have e2 : (#[r] ++ #[y]).extract 1 (#[r] ++ #[y]).size = #[y] := rfl
  simp only [ho, resolve, invoke, Sem.run_bind, Sem.run_pure, Result.andThen_ok, List.map_toArray, List.map_cons, List.map_nil, hs, hx, e1, e2, hcm]
  refine h.mono ?_
  rintro e w' ⟨v, rfl, hk⟩
  exact hk
theorem wpL_invoke {ops : Array Oper} {rest : List Oper} {o : Oper} {a : Act} {Q : Exit → Act → World → Prop} (hgd : o.guard = none) (recv x : Operand) (name : String) (u : TypeId) (ho : o.op = .call { callee := .invoke recv name, args := #[x], argTypes := #[u] }) (r y : Value) (hs : a.eval recv = r) (hx : a.eval x = y) (f : FuncId) (args : Array Value)
   (hcm : (callMethod r name #[y]).run P w = .ok (.enter f args) w)
   (h : Calls P f args w fun e w' => ∃ v, e = .returned v ∧ wpList P ops Q rest (a.put o.dst v) w') : wpList P ops Q (o :: rest) a w :=
  wpList_plain hgd fun _ hK => wp_invoke recv x name u ho r y hs hx f args hcm (h.mono fun e w' ⟨v, he, hk⟩ => ⟨v, he, hK _ _ hk⟩)
theorem step_invoke {ops : Array Oper} {o : Oper} {a : Act} {K : Act → World → Prop} {Q : Exit → Act → World → Prop} {E : Prop} (hgd : o.guard = none) (recv x : Operand) (name : String) (u : TypeId) (ho : o.op = .call { callee := .invoke recv name, args := #[x], argTypes := #[u] }) (r y : Value) (hs : a.eval recv = r) (hx : a.eval x = y) (f : FuncId) (args : Array Value)
   (hcm : (callMethod r name #[y]).run P w = .ok (.enter f args) w)
   (h : Calls P f args w fun e w' => ∃ v, e = .returned v ∧ K (a.put o.dst v) w') : if Region.wanted o (yielded ops a.tmps) = true then Oper.wp P o a w K Q else E := by
  have hw : Region.wanted o (yielded ops a.tmps) = true := by simp [Region.wanted, hgd]
  rw [if_pos hw]
  exact wp_invoke recv x name u ho r y hs hx f args hcm h
end

theorem getD_take {cur : Array Value} {tail : List UInt8} {n : Nat} (h : cur.toList.take n = Lib.byteCells tail) (j : Nat) (hj : j < tail.length) : cur[j]? = some (.int .u8 ((tail.getD j 0).toNat : Int)) := by
  have e : (cur.toList.take n)[j]? = some (.int .u8 ((tail.getD j 0).toNat : Int)) := by rw [h]; simp [Lib.byteCells, hj, List.getD_eq_getElem?_getD]
  rw [List.getElem?_take] at e
  split at e
  · simpa using e
  · cases e

/-- The bytes not yet flushed, as cells. -/
theorem Wr.cells {wB dB bB : Nat} {XB : List Nat} {cur : Array Value} {head tail : List UInt8} {w : World} (h : Wr wB dB bB XB cur head tail w) : ∀ j, j < tail.length → w.cell? ((⟨dB, 0, none⟩ : Addr).add j) = some (.int .u8 ((tail.getD j 0).toNat : Int)) := by
  intro j hj
  rw [Lib.add_plain, cell_of_heap h.row]
  rw [Nat.zero_add]
  exact getD_take h.take j hj

/-- Behind the flush. -/
theorem Wr.flushed {wB dB bB : Nat} {XB XB' : List Nat} {cur : Array Value} {head tail : List UInt8} {w w' : World} (h : Wr wB dB bB XB cur head tail w) (hb : IsBuf bB XB' (head ++ tail) w') (ho : Op XB w XB' w') :
    Wr wB dB bB XB' cur (head ++ tail) [] (w'.setCell ⟨wB, 2, none⟩ (.int .i64 0)) ∧ Op (wB :: dB :: XB) w (wB :: dB :: XB') (w'.setCell ⟨wB, 2, none⟩ (.int .i64 0)) := by
  have hw1 : w'.heap[wB]? = w.heap[wB]? := ho.block _ (lt_of_heap h.blk) h.ne2
  have hd1 : w'.heap[dB]? = w.heap[dB]? := ho.block _ (lt_of_heap h.row) h.ne3
  have n2 : wB ∉ XB' := fun hk => by
    rcases ho.fresh _ hk with h1 | h1
    · exact h.ne2 h1
    · have := lt_of_heap h.blk; omega
  have n3 : dB ∉ XB' := fun hk => by
    rcases ho.fresh _ hk with h1 | h1
    · exact h.ne3 h1
    · have := lt_of_heap h.row; omega
  refine ⟨⟨?_, ?_, h.size, by simp, by simp [Lib.byteCells], ?_, h.ne1, n2, n3⟩, ?_⟩
  · rw [Lib.heap_setCell_same (by rw [hw1]; exact h.blk)]; simp
  · rw [Below.heap_setCell _ _ _ _ (by simpa using Ne.symm h.ne1), hd1]; exact h.row
  · exact hb.kept fun k hk => Below.heap_setCell _ _ _ _ (fun e => n2 (by have e' : k = wB := e; rw [← e']; exact hk))
  · refine Op.trans (X1 := wB :: dB :: XB') ?_ (Op.setCell (by simp) _)
    exact ho.mono (fun k hk => by simp [hk]) (fun k hk => by simp at hk ⊢; rcases hk with h1 | h1 | h1 <;> simp [h1])

set_option maxRecDepth 100000 in
set_option maxHeartbeats 2000000 in
theorem flush_some (wB dB bB : Nat) (XB : List Nat) (cur : Array Value) (head tail : List UInt8) (w : World) (h : Wr wB dB bB XB cur head tail w) (h0 : 1 ≤ tail.length) (hlim : head.length + tail.length ≤ 500000000) :
    Calls Tryd.prog 14 #[.pointer (some ⟨wB, 0, none⟩)] w fun e w' => e = .returned .nilIface ∧ ∃ XB', Wr wB dB bB XB' cur (head ++ tail) [] w' ∧ Op (wB :: dB :: XB) w (wB :: dB :: XB') w' := by
  have hfit := h.fit
  have c0 : w.cell? ⟨wB, 0, none⟩ = some .nilIface := by rw [cell_of_heap h.blk]; rfl
  have c1 : w.cell? ⟨wB, 1, none⟩ = some (.slice (some ⟨dB, 0, none⟩) 4096 4096) := by rw [cell_of_heap h.blk]; rfl
  have c2 : w.cell? ⟨wB, 2, none⟩ = some (.int .i64 (tail.length : Int)) := by rw [cell_of_heap h.blk]; rfl
  have c3 : w.cell? ⟨wB, 3, none⟩ = some (.iface 33 (.pointer (some ⟨bB, 0, none⟩))) := by rw [cell_of_heap h.blk]; rfl
  obtain ⟨m, hm⟩ : ∃ m, m = tail.length := ⟨_, rfl⟩
  rw [← hm] at c2 hfit h0
  have HM := hide hm
  have hwr : ∀ W, Wr wB dB bB XB cur head tail W → Calls Tryd.prog 66 #[.pointer (some ⟨bB, 0, none⟩), .slice (some ⟨dB, 0, none⟩) m 4096] W fun e w' => e = .returned (.tuple #[.int .i64 m, .nilIface]) ∧ ∃ XB', IsBuf bB XB' (head ++ tail) w' ∧ Op XB W XB' w' ∧
      w'.cell? ⟨wB, 0, none⟩ = some .nilIface ∧ w'.cell? ⟨wB, 1, none⟩ = some (.slice (some ⟨dB, 0, none⟩) 4096 4096) ∧ w'.cell? ⟨wB, 2, none⟩ = some (.int .i64 (m : Int)) ∧ w'.cell? ⟨wB, 3, none⟩ = some (.iface 33 (.pointer (some ⟨bB, 0, none⟩))) ∧ w'.frozen? ⟨wB, 2, none⟩ = false := by
    intro W hW
    refine (bufWrite_any bB m 4096 XB head tail ⟨dB, 0, none⟩ W hW.buf hm.symm h0 (fun e => hW.ne3 (by obtain ⟨v, lr, _, _, _, rfl⟩ := hW.buf; rw [show dB = bB from e]; simp)) hW.cells (by omega)).mono ?_
    rintro e w' ⟨rfl, XB', hb, ho⟩
    have hw1 : w'.heap[wB]? = some (.cells #[.nilIface, .slice (some ⟨dB, 0, none⟩) 4096 4096, .int .i64 (m : Int), .iface 33 (.pointer (some ⟨bB, 0, none⟩))] 71 (0, 0)) := by rw [ho.block _ (lt_of_heap hW.blk) hW.ne2, hm]; exact hW.blk
    exact ⟨rfl, XB', hb, ho, by rw [cell_of_heap hw1]; rfl, by rw [cell_of_heap hw1]; rfl, by rw [cell_of_heap hw1]; rfl, by rw [cell_of_heap hw1]; rfl, frozen_of_heap hw1 2⟩
  have HW := hide hwr
  have HH := hide h
  clear hm hwr h
  have hm0 : ((m : Int) == 0) = false := by simp; omega
  have i0 : (0 : Int) ≤ (m : Int) := by omega
  have i1 : (m : Int) ≤ 4096 := by omega
  go_enter Tryd.func14, Tryd.ntmps14
  go_wp2_with fail
  go_region_held3 (fun W => W.cell? ⟨wB, 1, none⟩ = some (.slice (some ⟨dB, 0, none⟩) 4096 4096) ∧ W.cell? ⟨wB, 2, none⟩ = some (.int .i64 (m : Int)) ∧ W.cell? ⟨wB, 3, none⟩ = some (.iface 33 (.pointer (some ⟨bB, 0, none⟩)))) (go_keep)
    ((refine step_invoke rfl _ _ "Write" 29 rfl _ _ rfl rfl 66 _ (cm_write _ _ _) ((HW.out _ (by exact HH.out.kept (fun _ _ => rfl))).mono ?_); rintro e w2 ⟨rfl, XB', hb, ho, d0, d1, d2, d3, f2⟩; refine ⟨_, rfl, ?_⟩))
  go_wp2
  go_ret
  obtain ⟨r1, r2⟩ := (HH.out.kept (w' := w.drew) (fun _ _ => rfl)).flushed hb ho
  exact ⟨rfl, XB', r1, (Op.drewN _ w 1).trans r2⟩

/-- Flush. -/
theorem flush_any (wB dB bB : Nat) (XB : List Nat) (cur : Array Value) (head tail : List UInt8) (w : World) (h : Wr wB dB bB XB cur head tail w) (hlim : head.length + tail.length ≤ 500000000) :
    Calls Tryd.prog 14 #[.pointer (some ⟨wB, 0, none⟩)] w fun e w' => e = .returned .nilIface ∧ ∃ XB', Wr wB dB bB XB' cur (head ++ tail) [] w' ∧ Op (wB :: dB :: XB) w (wB :: dB :: XB') w' := by
  by_cases h0 : 1 ≤ tail.length
  · exact flush_some wB dB bB XB cur head tail w h h0 hlim
  · obtain rfl : tail = [] := List.eq_nil_of_length_eq_zero (by omega)
    have c0 : w.cell? ⟨wB, 0, none⟩ = some .nilIface := by rw [cell_of_heap h.blk]; rfl
    have c2 : w.cell? ⟨wB, 2, none⟩ = some (.int .i64 0) := by rw [cell_of_heap h.blk]; rfl
    have HH := hide h
    clear h
    go_enter Tryd.func14, Tryd.ntmps14
    go_wp2
    go_ret
    exact ⟨rfl, XB, by rw [List.append_nil]; exact HH.out, Op.refl _ _⟩
end Go.Proofs.Qxb6614809aDoor
