/-
  (*bytes.Buffer).Write.
-/
import Derived.Test.Qxb6614809aDoorBuf2
namespace Go.Proofs.Qxb6614809aDoor
open Go.RowKit
set_option linter.unusedVariables false

/-- Block b is a bytes.Buffer that has only been written, its row (if any) in another block; it holds bs; X: its blocks. -/
def IsBuf (b : Nat) (X : List Nat) (bs : List UInt8) (w : World) : Prop :=
  ∃ v lr, w.heap[b]? = some (.cells #[v, .int .i64 0, .int .i8 lr] 37 (0, 0)) ∧ Row w v bs ∧ b ∉ fp v ∧ X = b :: fp v

theorem IsBuf.lt {b : Nat} {X : List Nat} {bs : List UInt8} {w : World} (h : IsBuf b X bs w) : ∀ k ∈ X, k < w.heap.size := by
  obtain ⟨v, lr, h1, h2, h3, rfl⟩ := h
  intro k hk
  rcases List.mem_cons.1 hk with rfl | hk
  · exact lt_of_heap h1
  · exact h2.lt k hk
theorem IsBuf.kept {b : Nat} {X : List Nat} {bs : List UInt8} {w w' : World} (h : IsBuf b X bs w) (hb : ∀ k ∈ X, w'.heap[k]? = w.heap[k]?) : IsBuf b X bs w' := by
  obtain ⟨v, lr, h1, h2, h3, rfl⟩ := h
  exact ⟨v, lr, by rw [hb b (List.mem_cons_self ..)]; exact h1, h2.kept fun k hk => hb k (List.mem_cons_of_mem _ hk), h3, rfl⟩
theorem IsBuf.op {b : Nat} {X : List Nat} {bs : List UInt8} {w w' : World} {Y Y' : List Nat} (h : IsBuf b X bs w) (ho : Op Y w Y' w') (hd : ∀ k ∈ Y, k ∉ X) : IsBuf b X bs w' :=
  h.kept fun k hk => ho.block k (h.lt k hk) (fun hy => hd k hy hk)

/-- The buffer has room for m bytes behind its l: 'b.buf' has been lengthened; the m bytes are yet to be written. -/
structure Ready (b g cap l m : Nat) (cur : Array Value) (lr : Int) (bs : List UInt8) (w : World) : Prop where
  blk : w.heap[b]? = some (.cells #[.slice (some ⟨g, 0, none⟩) (l + m) cap, .int .i64 0, .int .i8 lr] 37 (0, 0))
  row : w.heap[g]? = some (.cells cur 5 (0, 0))
  size : cur.size = cap
  fit : l + m ≤ cap
  max : cap ≤ maxLen
  take : cur.toList.take l = Lib.byteCells bs
  ne : g ≠ b

theorem info5s : (Tryd.prog.info? 5).map (·.size) = some 1 := by kernel_rfl

theorem Ready.copy {b g cap l m c : Nat} {cur : Array Value} {lr : Int} {bs ys : List UInt8} {w : World} (h : Ready b g cap l m cur lr bs w) (a : Addr) (hm : ys.length = m) (hsrc : ∀ j, j < ys.length → w.cell? (a.add j) = some (.int .u8 ((ys.getD j 0).toNat : Int))) :
    (Builtin.copy_ #[29, 29] 3 #[.slice (some ⟨g, l, none⟩) m (cap - l), .slice (some a) m c]).run Tryd.prog w = .ok (goInt m) (w.setRow g (cur.toList.take l ++ Lib.byteCells ys ++ cur.toList.drop (l + m)).toArray) := by
  have hl : (Lib.byteCells ys).length = m := by rw [Lib.byteCells_length]; exact hm
  have := run_copy_row (P := Tryd.prog) w 29 29 3 5 g l m (cap - l) a m c cur 5 (Lib.byteCells ys) Tryd.underlying29 info5s h.row (by rw [hl]; exact (Nat.min_self m).symm) (fun j u hj => by
      have hjl : j < ys.length := by
        have := (List.getElem?_eq_some_iff.1 hj).1
        rwa [Lib.byteCells_length] at this
      rw [hsrc j hjl]
      simp [Lib.byteCells, hjl] at hj
      simp [← hj, List.getD_eq_getElem?_getD, hjl]) (by rw [hl, h.size]; exact h.fit) (Lib.byteCells_one _)
  rwa [hl] at this

theorem Ready.fin {b g cap l m : Nat} {cur : Array Value} {lr : Int} {bs ys : List UInt8} {w : World} (h : Ready b g cap l m cur lr bs w) (hl : bs.length = l) (hm : ys.length = m) :
    IsBuf b [b, g] (bs ++ ys) (w.setRow g (cur.toList.take l ++ Lib.byteCells ys ++ cur.toList.drop (l + m)).toArray) := by
  have hyl : (Lib.byteCells ys).length = m := by rw [Lib.byteCells_length]; exact hm
  have hbl : (Lib.byteCells bs).length = l := by rw [Lib.byteCells_length]; exact hl
  have hlen : (bs ++ ys).length = l + m := by rw [List.length_append, hl, hm]
  have hcl : cur.toList.length = cap := by rw [Array.length_toList]; exact h.size
  refine ⟨.slice (some ⟨g, 0, none⟩) (l + m) cap, lr, by rw [setRow_other _ _ _ _ (Ne.symm h.ne)]; exact h.blk, ⟨by rw [Lib.byteCells_length]; omega, .inr ⟨g, cap, _, by rw [hlen], Nat.zero_le _, setRow_heap w g cur _ 5 _ h.row, by rw [hlen]; exact h.fit, h.max, ?_, ?_⟩⟩, ?_, rfl⟩
  · simp only [List.size_toArray, List.length_append, List.length_take, List.length_drop, hyl, hcl]
    have := h.fit; omega
  · rw [h.take, hlen, Nat.mul_one]
    have e : Lib.byteCells (bs ++ ys) = Lib.byteCells bs ++ Lib.byteCells ys := by simp [Lib.byteCells]
    rw [e, List.take_left' (by rw [List.length_append, hbl, hyl])]
  · intro hb
    rw [mem_fp] at hb
    simp [Value.ownBlock] at hb
    exact h.ne hb

theorem op_setRow (w : World) (g : Nat) (cs : Array Value) : Op [g] w [g] (w.setRow g cs) :=
  ⟨rfl, rfl, rfl, by simp [World.setRow], fun k hk hx => setRow_other w g k cs (fun e => hx (by simp [e])), fun k h => .inl h⟩
end Go.Proofs.Qxb6614809aDoor
