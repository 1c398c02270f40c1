/-
  (*bufio.Writer).Write over a bytes.Buffer.
-/
import Derived.Test.Qxb6614809aDoorBio
namespace Go.Proofs.Qxb6614809aDoor
open Go.RowKit
set_option linter.unusedVariables false

/-- Available. -/
theorem avail_any (wB dB bB : Nat) (XB : List Nat) (cur : Array Value) (head tail : List UInt8) (w : World) (h : Wr wB dB bB XB cur head tail w) :
    Calls Tryd.prog 35 #[.pointer (some ⟨wB, 0, none⟩)] w fun e w' => e = .returned (.int .i64 (4096 - (tail.length : Int))) ∧ ∃ n, w' = w.drewN n := by
  have hfit := h.fit
  have c1 : w.cell? ⟨wB, 1, none⟩ = some (.slice (some ⟨dB, 0, none⟩) 4096 4096) := by rw [cell_of_heap h.blk]; rfl
  have c2 : w.cell? ⟨wB, 2, none⟩ = some (.int .i64 (tail.length : Int)) := by rw [cell_of_heap h.blk]; rfl
  clear h
  go_enter Tryd.func35, Tryd.ntmps35
  go_wp2
  go_quiet (fail)
  go_wp2
  go_ret
  exact ⟨rfl, _, rfl⟩

/-- Buffered. -/
theorem buffered_any (wB dB bB : Nat) (XB : List Nat) (cur : Array Value) (head tail : List UInt8) (w : World) (h : Wr wB dB bB XB cur head tail w) :
    Calls Tryd.prog 36 #[.pointer (some ⟨wB, 0, none⟩)] w fun e w' => e = .returned (.int .i64 (tail.length : Int)) ∧ w' = w := by
  have c2 : w.cell? ⟨wB, 2, none⟩ = some (.int .i64 (tail.length : Int)) := by rw [cell_of_heap h.blk]; rfl
  clear h
  go_enter Tryd.func36, Tryd.ntmps36
  go_wp2
  go_ret
  exact ⟨rfl, rfl⟩

/-- 'b.buf[b.n:]'. -/
theorem slice_from (dB tl : Nat) (h : tl ≤ 4096) : ∃ dA : Addr, (∀ W, (Instr.slice 29 (.slice (some ⟨dB, 0, none⟩) 4096 4096) (some (.int .i64 (tl : Int))) none none).run Tryd.prog W = .ok (.slice (some dA) (4096 - tl) (4096 - tl)) W) ∧
    (dA = ⟨dB, tl, none⟩ ∨ (dA = ⟨dB, 0, none⟩ ∧ tl = 4096)) := by
  by_cases e : tl = 4096
  · subst e
    refine ⟨⟨dB, 0, none⟩, fun W => ?_, .inr ⟨rfl, rfl⟩⟩
    go_simp
  · refine ⟨⟨dB, tl, none⟩, fun W => ?_, .inl rfl⟩
    have h1 : (0 : Int) ≤ (tl : Int) := by omega
    have h2 : (tl : Int) ≤ 4096 := by omega
    have h3 : ¬ (4096 = tl) := by omega
    go_simp

/-- The copy of zs (as much as there is room for) behind the bytes not yet flushed. -/
theorem Wr.copy {wB dB bB : Nat} {XB : List Nat} {cur : Array Value} {head tail zs : List UInt8} {w : World} (h : Wr wB dB bB XB cur head tail w) (dA a : Addr) (c : Nat) (hdA : dA = ⟨dB, tail.length, none⟩ ∨ (dA = ⟨dB, 0, none⟩ ∧ tail.length = 4096))
    (hsrc : ∀ j, j < zs.length → w.cell? (a.add j) = some (.int .u8 ((zs.getD j 0).toNat : Int))) :
    ∃ (q : Nat) (W2 : World) (cur' : Array Value), q = min zs.length (4096 - tail.length) ∧ (Builtin.copy_ #[29, 29] 3 #[.slice (some dA) (4096 - tail.length) (4096 - tail.length), .slice (some a) zs.length c]).run Tryd.prog w = .ok (goInt q) W2 ∧
      W2.heap[dB]? = some (.cells cur' 5 (0, 0)) ∧ cur'.size = 4096 ∧ cur'.toList.take (tail.length + q) = Lib.byteCells (tail ++ zs.take q) ∧ Op [dB] w [dB] W2 := by
  have hfit := h.fit
  have hcl : cur.toList.length = 4096 := by rw [Array.length_toList]; exact h.size
  obtain ⟨q, hq⟩ : ∃ q, q = min zs.length (4096 - tail.length) := ⟨_, rfl⟩
  have hzl : (Lib.byteCells (zs.take q)).length = q := by rw [Lib.byteCells_length, List.length_take]; omega
  have hs : ∀ j u, (Lib.byteCells (zs.take q))[j]? = some u → w.cell? (a.add j) = some u := fun j u hj => by
    have hjq : j < q := by have := (List.getElem?_eq_some_iff.1 hj).1; rwa [hzl] at this
    have hjl : j < zs.length := by omega
    rw [hsrc j hjl]
    simp [Lib.byteCells, hjl, hjq] at hj
    simp [← hj, List.getD_eq_getElem?_getD, hjl]
  have hlt : tail.length = (Lib.byteCells tail).length := by rw [Lib.byteCells_length]
  have fin : ∀ o, o = tail.length ∨ (q = 0 ∧ o = 0) →
      (cur.toList.take o ++ Lib.byteCells (zs.take q) ++ cur.toList.drop (o + q)).toArray.size = 4096 ∧ (cur.toList.take o ++ Lib.byteCells (zs.take q) ++ cur.toList.drop (o + q)).toArray.toList.take (tail.length + q) = Lib.byteCells (tail ++ zs.take q) := by
    intro o ho
    have e : Lib.byteCells (tail ++ zs.take q) = Lib.byteCells tail ++ Lib.byteCells (zs.take q) := by simp [Lib.byteCells]
    rcases ho with rfl | ⟨h0, rfl⟩
    · refine ⟨?_, ?_⟩
      · simp only [List.size_toArray, List.length_append, List.length_take, List.length_drop, hzl, hcl]; omega
      · rw [e, h.take]
        exact List.take_left' (by rw [List.length_append, ← hlt, hzl])
    · subst h0
      refine ⟨?_, ?_⟩
      · simp only [List.size_toArray, List.length_append, List.length_take, List.length_drop, hzl, hcl]; omega
      · rw [e]
        simp only [List.take_zero, Lib.byteCells, List.map_nil, List.append_nil, List.nil_append, Nat.add_zero, List.drop_zero]
        exact h.take
  rcases hdA with rfl | ⟨rfl, h4⟩
  · have hr := run_copy_row (P := Tryd.prog) w 29 29 3 5 dB tail.length (4096 - tail.length) (4096 - tail.length) a zs.length c cur 5 (Lib.byteCells (zs.take q)) Tryd.underlying29 info5s h.row (by rw [hzl, hq]) hs (by rw [hzl, h.size]; omega) (Lib.byteCells_one _)
    rw [hzl] at hr
    exact ⟨q, _, _, hq, hr, setRow_heap w dB cur _ 5 _ h.row, (fin _ (.inl rfl)).1, (fin _ (.inl rfl)).2, op_setRow _ _ _⟩
  · have hq0 : q = 0 := by omega
    have hr := run_copy_row (P := Tryd.prog) w 29 29 3 5 dB 0 (4096 - tail.length) (4096 - tail.length) a zs.length c cur 5 (Lib.byteCells (zs.take q)) Tryd.underlying29 info5s h.row (by rw [hzl, hq]) hs (by rw [hzl, h.size]; omega) (Lib.byteCells_one _)
    rw [hzl] at hr
    exact ⟨q, _, _, hq, hr, setRow_heap w dB cur _ 5 _ h.row, (fin 0 (.inr ⟨hq0, rfl⟩)).1, (fin 0 (.inr ⟨hq0, rfl⟩)).2, op_setRow _ _ _⟩

/-- .. and 'b.n += n'. -/
theorem Wr.copied {wB dB bB : Nat} {XB : List Nat} {cur cur' : Array Value} {head tail zs : List UInt8} {w W2 : World} {q : Nat} (h : Wr wB dB bB XB cur head tail w) (hq : q = min zs.length (4096 - tail.length)) (h1 : W2.heap[dB]? = some (.cells cur' 5 (0, 0))) (h2 : cur'.size = 4096) (h3 : cur'.toList.take (tail.length + q) = Lib.byteCells (tail ++ zs.take q)) (ho : Op [dB] w [dB] W2) :
    Wr wB dB bB XB cur' head (tail ++ zs.take q) (W2.setCell ⟨wB, 2, none⟩ (.int .i64 ((tail.length : Int) + (q : Int)))) ∧ Op (wB :: dB :: XB) w (wB :: dB :: XB) (W2.setCell ⟨wB, 2, none⟩ (.int .i64 ((tail.length : Int) + (q : Int)))) := by
  have hfit := h.fit
  have hlen : (tail ++ zs.take q).length = tail.length + q := by rw [List.length_append, List.length_take]; omega
  have hw1 : W2.heap[wB]? = w.heap[wB]? := ho.block _ (lt_of_heap h.blk) (by simpa using h.ne1)
  refine ⟨⟨?_, ?_, h2, by rw [hlen]; omega, by rw [hlen]; exact h3, ?_, h.ne1, h.ne2, h.ne3⟩, ?_⟩
  · rw [Lib.heap_setCell_same (by rw [hw1]; exact h.blk), hlen]; simp
  · rw [Below.heap_setCell _ _ _ _ (by simpa using Ne.symm h.ne1)]; exact h1
  · refine h.buf.kept fun k hk => ?_
    rw [Below.heap_setCell _ _ _ _ (fun e => h.ne2 (by have e' : k = wB := e; rw [← e']; exact hk))]
    exact ho.block k (h.buf.lt k hk) (fun hd => h.ne3 (by rw [← List.mem_singleton.1 hd]; exact hk))
  · exact (ho.mono (Y := wB :: dB :: XB) (Y' := wB :: dB :: XB) (fun k hk => by simp at hk; simp [hk]) (fun k hk => .inr hk)).trans (Op.setCell (by simp) _)

/-- The copy as a step of a region that draws its order. -/
theorem step_copy {ops : Array Oper} {o : Oper} {a : Act} {K : Act → World → Prop} {Q : Exit → Act → World → Prop} {E : Prop} {wB dB bB : Nat} {XB : List Nat} {cur : Array Value} {head tail zs : List UInt8} {w : World} (hgd : o.guard = none) (s x : Operand)
    (ho : o.op = .call { callee := .builtin .copy, args := #[s, x], argTypes := #[29, 29] }) (ht : o.type = 3) (dA ad : Addr) (c tl r : Nat) (hs : a.eval s = .slice (some dA) (4096 - tl) (4096 - tl)) (hx : a.eval x = .slice (some ad) r c)
    (h : Wr wB dB bB XB cur head tail w) (htl : tl = tail.length) (hr : r = zs.length) (hdA : dA = ⟨dB, tl, none⟩ ∨ (dA = ⟨dB, 0, none⟩ ∧ tl = 4096))
    (hsrc : ∀ j, j < zs.length → w.cell? (ad.add j) = some (.int .u8 ((zs.getD j 0).toNat : Int)))
    (hK : ∀ q W2 cur', Hid (q = min zs.length (4096 - tail.length) ∧ W2.heap[dB]? = some (.cells cur' 5 (0, 0)) ∧ cur'.size = 4096 ∧ cur'.toList.take (tail.length + q) = Lib.byteCells (tail ++ zs.take q) ∧ Op [dB] w [dB] W2) → K (a.put o.dst (.int .i64 (q : Int))) W2) :
    if Region.wanted o (yielded ops a.tmps) = true then Oper.wp Tryd.prog o a w K Q else E := by
  have hw : Region.wanted o (yielded ops a.tmps) = true := by simp [Region.wanted, hgd]
  rw [if_pos hw]
  subst htl
  subst hr
  obtain ⟨q, W2, cur', hq, hrun, h1, h2, h3, h4⟩ := h.copy dA ad c hdA hsrc
  unfold Oper.wp execOp
  simp only [ho, ht, resolve, invoke, builtin, Sem.run_bind, Sem.run_pure, Result.andThen_ok, List.map_toArray, List.map_cons, List.map_nil, hs, hx, hrun]
  exact hK q W2 cur' ⟨hq, h1, h2, h3, h4⟩
end Go.Proofs.Qxb6614809aDoor
