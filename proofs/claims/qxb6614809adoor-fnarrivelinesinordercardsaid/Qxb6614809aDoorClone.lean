/-
  zzCloneNames.
-/
import Derived.Test.Qxb6614809aDoorNames
import Derived.Lib.LazyBuf
namespace Go.Proofs.Qxb6614809aDoor
open Go.RowKit
set_option linter.unusedVariables false

theorem copy_new (w : World) (g l : Nat) (a : Addr) (c : Nat) (cur : Array Value) (ys : List UInt8) (hrow : w.heap[g]? = some (.cells cur 5 (0, 0))) (hcur : cur.size = l) (hy : ys.length = l) (hl : l ≤ maxLen) (hsrc : ∀ j, j < ys.length → w.cell? (a.add j) = some (.int .u8 ((ys.getD j 0).toNat : Int))) :
    ∃ W2, (Builtin.copy_ #[29, 29] 3 #[.slice (some ⟨g, 0, none⟩) l l, .slice (some a) l c]).run Tryd.prog w = .ok (goInt l) W2 ∧ Row W2 (.slice (some ⟨g, 0, none⟩) l l) ys ∧ Op [g] w [g] W2 := by
  subst hy
  have hbl : (Lib.byteCells ys).length = ys.length := Lib.byteCells_length _
  have hr := run_copy_row (P := Tryd.prog) w 29 29 3 5 g 0 ys.length ys.length a ys.length c cur 5 (Lib.byteCells ys) Tryd.underlying29 info5s hrow (by rw [hbl]; exact (Nat.min_self _).symm) (byte_cells_at hsrc) (by rw [hbl, hcur]; omega) (Lib.byteCells_one _)
  rw [hbl] at hr
  refine ⟨_, hr, ?_, op_setRow _ _ _⟩
  have hcl : cur.toList.length = ys.length := by rw [Array.length_toList]; exact hcur
  refine ⟨by simp [hbl], .inr ⟨g, ys.length, _, rfl, Nat.zero_le _, setRow_heap w g cur _ 5 _ hrow, Nat.le_refl _, hl, ?_, ?_⟩⟩
  · simp [hbl, hcl]
  · simp [List.drop_eq_nil_of_le, hcl, List.take_of_length_le, hbl]

theorem step_copyrow {ops : Array Oper} {o : Oper} {a : Act} {K : Act → World → Prop} {Q : Exit → Act → World → Prop} {E : Prop} {w : World} (hgd : o.guard = none) (s x : Operand)
    (ho : o.op = .call { callee := .builtin .copy, args := #[s, x], argTypes := #[29, 29] }) (ht : o.type = 3) (g l : Nat) (ad : Addr) (c : Nat) (cur : Array Value) (ys : List UInt8) (hs : a.eval s = .slice (some ⟨g, 0, none⟩) l l) (hx : a.eval x = .slice (some ad) l c)
    (hrow : w.heap[g]? = some (.cells cur 5 (0, 0))) (hcur : cur.size = l) (hy : ys.length = l) (hl : l ≤ maxLen) (hsrc : ∀ j, j < ys.length → w.cell? (ad.add j) = some (.int .u8 ((ys.getD j 0).toNat : Int)))
    (hK : ∀ W2, Hid (Row W2 (.slice (some ⟨g, 0, none⟩) l l) ys ∧ Op [g] w [g] W2) → K (a.put o.dst (.int .i64 (l : Int))) W2) :
    if Region.wanted o (yielded ops a.tmps) = true then Oper.wp Tryd.prog o a w K Q else E := by
  have hw : Region.wanted o (yielded ops a.tmps) = true := by simp [Region.wanted, hgd]
  rw [if_pos hw]
  obtain ⟨W2, hrun, h1, h2⟩ := copy_new w g l ad c cur ys hrow hcur hy hl hsrc
  unfold Oper.wp execOp
  simp only [ho, ht, resolve, invoke, builtin, Sem.run_bind, Sem.run_pure, Result.andThen_ok, List.map_toArray, List.map_cons, List.map_nil, hs, hx, hrun]
  exact hK W2 ⟨h1, h2⟩

/-- The clone, its first k names done. -/
structure Cl (w : World) (nB len : Nat) (Y : Nat → List UInt8) (k : Nat) (wr : World) : Prop where
  ex : ∃ cur, wr.heap[nB]? = some (.cells cur 29 (0, 0)) ∧ cur.size = len ∧ (∀ j, j < k → ∃ hv, cur[j]? = some hv ∧ Row wr hv (Y j) ∧ nB ∉ fp hv) ∧ (∀ j, k ≤ j → j < len → cur[j]? = some (.slice none 0 0)) ∧ Op [] w [] wr ∧ nB = w.heap.size

theorem Cl.nil {w wr : World} {nB len k : Nat} {Y : Nat → List UInt8} (h : Cl w nB len Y k wr) (hk : k < len) (hy : Y k = []) : Cl w nB len Y (k + 1) wr := by
  obtain ⟨cur, h1, h2, h3, h4, h5, h6⟩ := h.ex
  refine ⟨cur, h1, h2, fun j hj => ?_, fun j hj hl => h4 j (by omega) hl, h5, h6⟩
  by_cases e : j = k
  · subst e
    exact ⟨_, h4 j (Nat.le_refl _) hk, by rw [hy]; exact Row.nil _, by simp [fp, Value.ownBlock]⟩
  · exact h3 j (by omega)

theorem Cl.start (w : World) (len : Nat) (Y : Nat → List UInt8) : Cl w w.heap.size len Y 0 (w.alloc (.cells (madeCells #[.slice none 0 0] len) 29)) := by
  refine ⟨madeCells #[.slice none 0 0] len, by simp only [alloc_heap, Array.getElem?_push_size], size_madeCells _ _, fun j hj => by omega, fun j _ hj => ?_, Op.alloc _ _ _, rfl⟩
  have := toList_madeCells_one (.slice none 0 0) len
  rw [← Array.getElem?_toList, this]
  simp [hj]

/-- Behind the make and the store. -/
theorem Cl.put {w wr W2 : World} {nB len k l : Nat} {Y : Nat → List UInt8} (h : Cl w nB len Y k wr) (hk : k < len)
    (hr : Row W2 (.slice (some ⟨wr.heap.size, 0, none⟩) l l) (Y k)) (ho : Op [wr.heap.size] (((wr.alloc (.cells (madeCells #[.int .u8 0] l) 5)).setCell ⟨nB, k, none⟩ (.slice (some ⟨wr.heap.size, 0, none⟩) l l)).drewN 1) [wr.heap.size] W2) : Cl w nB len Y (k + 1) W2 := by
  obtain ⟨cur, h1, h2, h3, h4, h5, h6⟩ := h.ex
  have hlt := lt_of_heap h1
  have ha : (wr.alloc (.cells (madeCells #[.int .u8 0] l) 5)).heap[nB]? = some (.cells cur 29 (0, 0)) := ((Op.alloc [] wr _).block nB hlt (by simp)).trans h1
  have hb := Lib.heap_setCell_same (i := k) ha (.slice (some ⟨wr.heap.size, 0, none⟩) l l)
  have oA := Op.alloc [nB] wr (.cells (madeCells #[.int .u8 0] l) 5)
  have oB := Op.setCell (X := [nB]) (w := wr.alloc (.cells (madeCells #[.int .u8 0] l) 5)) (a := ⟨nB, k, none⟩) (by simp) (.slice (some ⟨wr.heap.size, 0, none⟩) l l)
  have oC := Op.drewN [nB] ((wr.alloc (.cells (madeCells #[.int .u8 0] l) 5)).setCell ⟨nB, k, none⟩ (.slice (some ⟨wr.heap.size, 0, none⟩) l l)) 1
  have o1 := oA.trans (oB.trans oC)
  have hs1 := o1.size
  have hsw := h5.size
  refine ⟨cur.setIfInBounds k (.slice (some ⟨wr.heap.size, 0, none⟩) l l), ?_, by simpa using h2, fun j hj => ?_, fun j hj hl => ?_, ?_, h6⟩
  · rw [ho.block nB (by omega) (by simp; omega)]
    exact hb
  · by_cases e : j = k
    · subst e
      refine ⟨_, by rw [Array.getElem?_setIfInBounds_self_of_lt (by omega)], hr, ?_⟩
      intro hx; rw [mem_fp] at hx; simp [Value.ownBlock] at hx; omega
    · obtain ⟨hv, q1, q2, q3⟩ := h3 j (by omega)
      refine ⟨hv, by rw [Array.getElem?_setIfInBounds_ne (by omega)]; exact q1, ?_, q3⟩
      refine (q2.op o1 (by intro k hk; simp at hk; subst hk; exact q3)).op ho (fun k hk hx => ?_)
      simp at hk
      have := q2.lt k hx
      omega
  · rw [Array.getElem?_setIfInBounds_ne (by omega)]
    exact h4 j (by omega) hl
  · refine ⟨ho.os.trans (o1.os.trans h5.os), ho.tape.trans (o1.tape.trans h5.tape), ho.output.trans (o1.output.trans h5.output), Nat.le_trans hsw (Nat.le_trans hs1 ho.size), fun k hk _ => ?_, by simp⟩
    rw [ho.block k (by omega) (by simp; omega), o1.block k (by omega) (by simp; omega), h5.block k hk (by simp)]

theorem cell_lt {w : World} {b o : Nat} {v : Value} (h : w.cell? ⟨b, o, none⟩ = some v) : b < w.heap.size := by
  rcases Nat.lt_or_ge b w.heap.size with h' | h'
  · exact h'
  · simp [World.cell?, Array.getElem?_eq_none h'] at h

set_option maxRecDepth 100000 in
set_option maxHeartbeats 4000000 in
theorem clone_any (b off len cap : Nat) (A : Nat → Option Addr) (L C : Nat → Nat) (Y : Nat → List UInt8) (w : World) (h : Names w b off len A L C Y) (hL : ∀ i, i < len → L i ≤ 1048576) (hm : len ≤ 4096) :
    Calls Tryd.prog 6 #[.slice (some ⟨b, off, none⟩) len cap] w fun e w' => e = .returned (.slice (some ⟨w.heap.size, 0, none⟩) len len) ∧ Cl w w.heap.size len Y len w' := by
  have H := hide h
  have HL := hide hL
  clear h hL
  have n1 := fun (W : World) (a : Addr) (l c : Nat) => Lib.run_eql_slice_some_nil (P := Tryd.prog) W a l c Tryd.underlying22
  have mk := fun (W : World) => make22 len W (by omega)
  have HS := hide (Cl.start w len Y)
  go_enter Tryd.func6, Tryd.ntmps6
  go_wp2
  generalize (w.alloc (.cells (madeCells #[.slice none 0 0] len) 29)) = w0 at *
  generalize hnB : w.heap.size = nB at *
  have HnB := hide hnB
  clear n1 mk hnB
  go_loopg [4] len (fun gk i wr => ∃ k : Nat, gk = len - k ∧ k ≤ len ∧ i = .int .i64 k ∧ Hid (Cl w nB len Y k wr))
  case atStart => exact ⟨0, rfl, Nat.zero_le _, rfl, HS.out⟩
  case round =>
    clear HS
    obtain ⟨k, hgk, hk, rfl, hc⟩ := hrel
    by_cases hlt : k < len
    · obtain ⟨cur, h1, h2, h3, h4, h5, h6⟩ := hc.out.ex
      have hbw := cell_lt (H.out.cell k hlt)
      have ck : wr.cell? ⟨b, off + k, none⟩ = some (.slice (A k) (L k) (C k)) := (World.cell?_of_block (a := ⟨b, off + k, none⟩) (h5.block b hbw (by simp))).trans (H.out.cell k hlt)
      have hle := HL.out k hlt
      have n2 := fun (W : World) (a : Option Addr) (l c : Nat) => run_neq_slice_nil (P := Tryd.prog) W 29 5 a l c Tryd.underlying29
      cases hA : A k with
      | none =>
        obtain ⟨e1, e2⟩ := H.out.nil k hlt hA
        have hY : Y k = [] := List.eq_nil_of_length_eq_zero (by rw [H.out.ylen k hlt]; exact e1)
        rw [hA, e1, e2] at ck
        have HN := hide (hc.out.nil hlt hY)
        clear e1 e2 hY hA h1 h2 h3 h4 h5 h6
        go_wp2
        go_roundg (len - (k + 1))
        case measure => omega
        case rel => exact ⟨k + 1, rfl, hlt, by go_num, HN.out⟩
      | some a =>
        rw [hA] at ck
        have hyl := H.out.ylen k hlt
        have hby := H.out.bytes k hlt a hA
        generalize hl : L k = l at *
        have mk := fun (W : World) => make29 l W (by omega)
        have ha : (wr.alloc (.cells (madeCells #[.int .u8 0] l) 5)).heap[nB]? = some (.cells cur 29 (0, 0)) := ((Op.alloc [] wr _).block nB (lt_of_heap h1) (by simp)).trans h1
        have cN : (wr.alloc (.cells (madeCells #[.int .u8 0] l) 5)).cell? ⟨nB, k, none⟩ = some (.slice none 0 0) := by rw [cell_of_heap ha]; exact h4 k (Nat.le_refl _) hlt
        have fN : (wr.alloc (.cells (madeCells #[.int .u8 0] l) 5)).frozen? ⟨nB, k, none⟩ = false := frozen_of_heap ha k
        have hb := Lib.heap_setCell_same (i := k) ha (.slice (some ⟨wr.heap.size, 0, none⟩) l l)
        have d1 : ((wr.alloc (.cells (madeCells #[.int .u8 0] l) 5)).setCell ⟨nB, k, none⟩ (.slice (some ⟨wr.heap.size, 0, none⟩) l l)).cell? ⟨nB, k, none⟩ = some (.slice (some ⟨wr.heap.size, 0, none⟩) l l) := by
          rw [cell_of_heap hb]; simp [h2, hlt]
        have o1 := (Op.alloc [nB] wr (.cells (madeCells #[.int .u8 0] l) 5)).trans (Op.setCell (X := [nB]) (a := ⟨nB, k, none⟩) (by simp) (.slice (some ⟨wr.heap.size, 0, none⟩) l l))
        have d2 : ((wr.alloc (.cells (madeCells #[.int .u8 0] l) 5)).setCell ⟨nB, k, none⟩ (.slice (some ⟨wr.heap.size, 0, none⟩) l l)).cell? ⟨b, off + k, none⟩ = some (.slice (some a) l (C k)) := (World.cell?_of_block (a := ⟨b, off + k, none⟩) (o1.block b (by have := h5.size; omega) (by simp; omega))).trans ck
        have d3 : ((wr.alloc (.cells (madeCells #[.int .u8 0] l) 5)).setCell ⟨nB, k, none⟩ (.slice (some ⟨wr.heap.size, 0, none⟩) l l)).heap[wr.heap.size]? = some (.cells (madeCells #[.int .u8 0] l) 5 (0, 0)) := by
          have hlt1 := lt_of_heap h1
          rw [Below.heap_setCell _ _ _ _ (by show wr.heap.size ≠ nB; omega), alloc_heap, Array.getElem?_push_size]
        have D4 : Hid (∀ j, j < (Y k).length → ((wr.alloc (.cells (madeCells #[.int .u8 0] l) 5)).setCell ⟨nB, k, none⟩ (.slice (some ⟨wr.heap.size, 0, none⟩) l l)).cell? (a.add j) = some (.int .u8 (((Y k).getD j 0).toNat : Int))) := hide (fun j hj => by
          have hcj := hby j (by omega)
          have hlj : (a.add j).block < w.heap.size := by
            rcases Nat.lt_or_ge (a.add j).block w.heap.size with h' | h'
            · exact h'
            · simp [World.cell?, Array.getElem?_eq_none h'] at hcj
          rw [World.cell?_of_block (o1.block _ (by have := h5.size; omega) (by simp; omega)), World.cell?_of_block (h5.block _ hlj (by simp))]
          exact hcj)
        have HD3 := hide d3
        clear ha hb o1 d3
        have HYL := hide hyl
        have HBY := hide hby
        have H1 := hide h1
        have H5 := hide h5
        have HH6 := hide h6
        clear hA hl h1 h2 h3 h4 h5 h6 hyl hby
        go_wp2_with fail
        have HP : Hid (∀ W2, Row W2 (.slice (some ⟨wr.heap.size, 0, none⟩) l l) (Y k) → Op [wr.heap.size] (((wr.alloc (.cells (madeCells #[.int .u8 0] l) 5)).setCell ⟨nB, k, none⟩ (.slice (some ⟨wr.heap.size, 0, none⟩) l l)).drewN 1) [wr.heap.size] W2 → Cl w nB len Y (k + 1) W2) := hide (fun W2 => hc.out.put hlt)
        have hgn : nB ≠ wr.heap.size := by have := lt_of_heap H1.out; omega
        have hgb : b ≠ wr.heap.size := by have := H5.out.size; omega
        have hbl : b < ((wr.alloc (.cells (madeCells #[.int .u8 0] l) 5)).setCell ⟨nB, k, none⟩ (.slice (some ⟨wr.heap.size, 0, none⟩) l l)).heap.size := cell_lt d2
        have hnl : nB < ((wr.alloc (.cells (madeCells #[.int .u8 0] l) 5)).setCell ⟨nB, k, none⟩ (.slice (some ⟨wr.heap.size, 0, none⟩) l l)).heap.size := cell_lt d1
        generalize ((wr.alloc (.cells (madeCells #[.int .u8 0] l) 5)).setCell ⟨nB, k, none⟩ (.slice (some ⟨wr.heap.size, 0, none⟩) l l)) = w3 at *
        generalize wr.heap.size = g at *
        clear n2 mk cN fN ck
        go_region_held3 (fun W => W.cell? ⟨nB, k, none⟩ = some (.slice (some ⟨g, 0, none⟩) l l) ∧ W.cell? ⟨b, off + k, none⟩ = some (.slice (some a) l (C k))) (go_keep)
          (first | (refine step_copyrow rfl _ _ rfl rfl g l a (C k) (madeCells #[.int .u8 0] l) (Y k) rfl rfl (by exact HD3.out) (size_madeCells _ _) HYL.out (by unfold maxLen; omega) (by exact D4.out) ?_; intro W2 HK; have d5 : W2.cell? ⟨nB, k, none⟩ = some (.slice (some ⟨g, 0, none⟩) l l) := (World.cell?_of_block (a := ⟨nB, k, none⟩) (HK.out.2.block nB (by exact hnl) (by simpa using hgn))).trans (by exact d1); have d6 : W2.cell? ⟨b, off + k, none⟩ = some (.slice (some a) l (C k)) := (World.cell?_of_block (a := ⟨b, off + k, none⟩) (HK.out.2.block b (by exact hbl) (by simpa using hgb))).trans (by exact d2)))
        go_wp2
        go_roundg (len - (k + 1))
        case measure => omega
        case rel => exact ⟨k + 1, rfl, hlt, by go_num, HP.out W2 HK.out.1 HK.out.2⟩
    · have hkl : k = len := by omega
      have hd : decide ((k : Int) < (len : Int)) = false := by simpa using hlt
      have HC := hide hc.out
      subst hkl
      go_wp2
      go_ret
      rw [HnB.out]
      exact ⟨rfl, HC.out⟩
end Go.Proofs.Qxb6614809aDoor
