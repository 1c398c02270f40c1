/-
  (*timeline).write, (*timeline).add at an arrive line.
-/
import Derived.Test.Qxb6614809aDoorLine
import Derived.Deep.RegionLaw
import Derived.Deep.DrawnRows
namespace Go.Proofs.Qxb6614809aDoor
open Go.RowKit
set_option linter.unusedVariables false

theorem info81 : (Tryd.prog.info? 81).map (fun i => (i.zero, i.size, i.bytes)) = some (some (.agg #[.int .i32 0, .int .i32 0]), 2, 8) := by kernel_rfl

/-- A slice of m goroutines' records. -/
def GRow (w : World) (v : Value) (m : Nat) : Prop := ∃ xs, w.ownsRow 0 81 2 v m xs
theorem GRow.lt {w : World} {v : Value} {m : Nat} (h : GRow w v m) : ∀ k ∈ fp v, k < w.heap.size := fun k hk => by obtain ⟨xs, h⟩ := h; exact (World.ownsRow.lt h k (mem_fp.1 hk)).2
theorem GRow.kept {w w' : World} {v : Value} {m : Nat} (h : GRow w v m) (hb : ∀ k ∈ fp v, w'.heap[k]? = w.heap[k]?) : GRow w' v m := by
  obtain ⟨xs, h⟩ := h
  refine ⟨xs, h.1, ?_⟩
  rcases h.2 with hn | ⟨g, cap, cur, rfl, hb', hg, rest⟩
  · exact .inl hn
  · exact .inr ⟨g, cap, cur, rfl, hb', by rw [hb g (mem_fp.2 rfl)]; exact hg, rest⟩
theorem GRow.op {w w' : World} {v : Value} {m : Nat} {X X' : List Nat} (h : GRow w v m) (ho : Op X w X' w') (hd : ∀ k ∈ X, k ∉ fp v) : GRow w' v m :=
  h.kept fun k hk => ho.block k (h.lt k hk) (fun hx => hd k hx hk)

/-- append(tl.goroutines, timelineG{..}) as a step of a region that draws its order. -/
theorem step_appg {ops : Array Oper} {o : Oper} {a : Act} {K : Act → World → Prop} {Q : Exit → Act → World → Prop} {E : Prop} {w : World} {v : Value} {m N : Nat} (hgd : o.guard = none) (s x : Operand)
    (ho : o.op = .call { callee := .builtin .append, args := #[s, x], argTypes := #[45, 45] }) (ht : o.type = 45) (x0 x1 : Value) (hs : a.eval s = v) (hx : a.eval x = .slice (some ⟨N, 0, none⟩) 1 1)
    (hN : w.heap[N]? = some (.cells #[x0, x1] 81 (0, 0))) (h1 : x0.oneCell' = true) (h2 : x1.oneCell' = true) (h : GRow w v m) (hm : m ≤ 1000000)
    (hK : ∀ g cap w', Hid (GRow w' (.slice (some ⟨g, 0, none⟩) (m + 1) cap) (m + 1) ∧ Op (fp v) w [g] w') → K (a.put o.dst (.slice (some ⟨g, 0, none⟩) (m + 1) cap)) w') :
    if Region.wanted o (yielded ops a.tmps) = true then Oper.wp Tryd.prog o a w K Q else E := by
  obtain ⟨xs, h⟩ := h
  obtain ⟨i, hi, hz0, hz1, hz2⟩ := info_parts info81
  obtain ⟨v', w', hr, q1, q2, q3, q4⟩ := run_append_own_at (P := Tryd.prog) w 0 45 45 81 i (.agg #[.int .i32 0, .int .i32 0]) 2 8 Tryd.underlying45 hi hz0 hz1 hz2 rfl (by decide) v m xs h ⟨N, 0, none⟩ 1 1 [x0, x1] rfl
    (fun j u hj => by
      rw [Lib.add_plain, cell_of_heap hN]
      match j, hj with
      | 0, hj => simpa using hj
      | 1, hj => simpa using hj) (fun u hu => by simp at hu; rcases hu with rfl | rfl <;> assumption) (by unfold maxLen; omega) (by omega) (Nat.zero_le _)
  have hop : Op (fp v) w (fp v') w' := op_of_grown q2 q4
  rcases q1.2 with ⟨_, e⟩ | ⟨g, cap, cur, rfl, _⟩
  · omega
  · refine step_app hgd s x 45 45 ho v _ hs hx (by rw [ht]; exact hr) (hK g cap w' ⟨⟨_, q1⟩, hop⟩)

/-- The timeline of block T. -/
structure Tl (Y : List Nat) (T wB bB : Nat) (noP : Int) (nv gv ev : Value) (m : Nat) (xs : List UInt8) (X : List Nat) (out : List UInt8) (w : World) : Prop where
  blk : w.heap[T]? = some (.cells #[.pointer (some ⟨wB, 0, none⟩), .int .i64 noP, nv, gv, .slice none 0 0, .int .i64 0, .int .i64 0, ev] 48 (0, 0))
  gs : GRow w gv m
  row : Row w ev xs
  wr : IsWr X wB bB out w
  n1 : T ∉ fp gv
  n2 : T ∉ fp ev
  n3 : T ∉ X
  n4 : ∀ k ∈ fp gv, k ∉ fp ev
  n5 : ∀ k ∈ fp gv, k ∉ X
  n6 : ∀ k ∈ fp ev, k ∉ X
  foot : Y = T :: (fp gv ++ (fp ev ++ X))

/-- The same without a word on the event's row. -/
structure TlW (T wB bB : Nat) (noP : Int) (nv gv ev : Value) (m : Nat) (X : List Nat) (out : List UInt8) (w : World) : Prop where
  blk : w.heap[T]? = some (.cells #[.pointer (some ⟨wB, 0, none⟩), .int .i64 noP, nv, gv, .slice none 0 0, .int .i64 0, .int .i64 0, ev] 48 (0, 0))
  gs : GRow w gv m
  wr : IsWr X wB bB out w
  n1 : T ∉ fp gv
  n3 : T ∉ X
  n5 : ∀ k ∈ fp gv, k ∉ X

theorem Tl.lt {Y : List Nat} {T wB bB : Nat} {noP : Int} {nv gv ev : Value} {m : Nat} {xs : List UInt8} {X : List Nat} {out : List UInt8} {w : World} (h : Tl Y T wB bB noP nv gv ev m xs X out w) : ∀ k ∈ Y, k < w.heap.size := by
  intro k hk
  rw [h.foot] at hk
  simp at hk
  rcases hk with rfl | hk | hk | hk
  · exact lt_of_heap h.blk
  · exact h.gs.lt k hk
  · exact h.row.lt k hk
  · exact h.wr.lt k hk
theorem Tl.kept {Y : List Nat} {T wB bB : Nat} {noP : Int} {nv gv ev : Value} {m : Nat} {xs : List UInt8} {X : List Nat} {out : List UInt8} {w w' : World} (h : Tl Y T wB bB noP nv gv ev m xs X out w) (hb : ∀ k ∈ Y, w'.heap[k]? = w.heap[k]?) : Tl Y T wB bB noP nv gv ev m xs X out w' := by
  have hf := h.foot
  exact ⟨by rw [hb T (by rw [hf]; simp)]; exact h.blk, h.gs.kept fun k hk => hb k (by rw [hf]; simp [hk]), h.row.kept fun k hk => hb k (by rw [hf]; simp [hk]), h.wr.kept fun k hk => hb k (by rw [hf]; simp [hk]), h.n1, h.n2, h.n3, h.n4, h.n5, h.n6, hf⟩

set_option maxRecDepth 100000 in
set_option maxHeartbeats 2000000 in
/-- (*timeline).write: the event's row is kept for its room; its bytes go to the writer. -/
theorem tlWrite_any (T wB bB pB pc m : Nat) (noP : Int) (nv gv ev : Value) (L : List UInt8) (X : List Nat) (out : List UInt8) (w : World) (h : TlW T wB bB noP nv gv ev m X out w)
    (hr : Row w (.slice (some ⟨pB, 0, none⟩) L.length pc) L) (p1 : pB ≠ T) (p2 : pB ∉ fp gv) (p3 : pB ∉ X) (hl : out.length + L.length ≤ 300000000) :
    Calls Tryd.prog 33 #[.pointer (some ⟨T, 0, none⟩), .slice (some ⟨pB, 0, none⟩) L.length pc] w fun e w' => e = .returned (.tuple #[]) ∧ ∃ X', Tl (T :: (fp gv ++ ([pB] ++ X'))) T wB bB noP nv gv (.slice (some ⟨pB, 0, none⟩) L.length pc) m L X' (out ++ L) w' ∧ Op (T :: (fp gv ++ ([pB] ++ X))) w (T :: (fp gv ++ ([pB] ++ X'))) w' := by
  have hT := lt_of_heap h.blk
  have c7 : w.cell? ⟨T, 7, none⟩ = some ev := by rw [cell_of_heap h.blk]; rfl
  have c0 : w.cell? ⟨T, 0, none⟩ = some (.pointer (some ⟨wB, 0, none⟩)) := by rw [cell_of_heap h.blk]; rfl
  have f7 : w.frozen? ⟨T, 7, none⟩ = false := frozen_of_heap h.blk 7
  have hs : (w.setCell ⟨T, 7, none⟩ (.slice (some ⟨pB, 0, none⟩) L.length pc)).heap[T]? = some (.cells #[.pointer (some ⟨wB, 0, none⟩), .int .i64 noP, nv, gv, .slice none 0 0, .int .i64 0, .int .i64 0, .slice (some ⟨pB, 0, none⟩) L.length pc] 48 (0, 0)) := by rw [Lib.heap_setCell_same h.blk]; simp
  have s0 : (w.setCell ⟨T, 7, none⟩ (.slice (some ⟨pB, 0, none⟩) L.length pc)).cell? ⟨T, 0, none⟩ = some (.pointer (some ⟨wB, 0, none⟩)) := by rw [cell_of_heap hs]; rfl
  have ho : Op [T] w [T] (w.setCell ⟨T, 7, none⟩ (.slice (some ⟨pB, 0, none⟩) L.length pc)) := Op.setCell (by simp) _
  have hr1 := hr.op ho (fun k hk => by rw [mem_fp]; intro e; simp [Value.ownBlock] at e; simp at hk; omega)
  have hw1 := h.wr.op ho (fun k hk => by simp at hk; rw [hk]; exact h.n3)
  have hg1 := h.gs.op ho (fun k hk => by simp at hk; rw [hk]; exact h.n1)
  have HC := hide (hw1.write hr1 p3 (by omega))
  have HH := hide h
  have HS := hide hs
  have HR := hide hr1
  have HG := hide hg1
  have HO := hide ho
  clear hr1 hw1 hg1 h hs ho hr
  go_enter Tryd.func33, Tryd.ntmps33
  go_wp2_with fail
  refine HC.out.mono ?_
  rintro e w' ⟨rfl, X', hX, hO⟩
  have HX := hide hX
  have HO2 := hide hO
  clear hX hO
  go_wp2
  go_end0
  have hO := HO2.out
  have hX := HX.out
  have hsz : (w.setCell ⟨T, 7, none⟩ (.slice (some ⟨pB, 0, none⟩) L.length pc)).heap.size = w.heap.size := by simp [World.setCell]
  have fr : ∀ k ∈ X', k ∈ X ∨ w.heap.size ≤ k := fun k hk => by have := hO.fresh k hk; rwa [hsz] at this
  refine ⟨rfl, X', ⟨?_, ?_, ?_, hX, HH.out.n1, ?_, ?_, ?_, ?_, ?_, rfl⟩, ?_⟩
  · rw [hO.block T (by omega) HH.out.n3]; exact HS.out
  · exact HG.out.op hO (fun k hk hk' => HH.out.n5 k hk' hk)
  · exact HR.out.op hO (fun k hk => by rw [mem_fp]; intro e; simp [Value.ownBlock] at e; exact p3 (by rw [e]; exact hk))
  · rw [mem_fp]; simp [Value.ownBlock]; exact p1
  · intro hk
    rcases fr _ hk with h1 | h1
    · exact HH.out.n3 h1
    · omega
  · intro k hk; rw [mem_fp]; intro e; simp [Value.ownBlock] at e; exact p2 (by rw [e]; exact hk)
  · intro k hk hk'
    rcases fr _ hk' with h1 | h1
    · exact HH.out.n5 k hk h1
    · have := HH.out.gs.lt k hk; omega
  · intro k hk hk'
    rw [mem_fp] at hk; simp [Value.ownBlock] at hk; subst hk
    rcases fr _ hk' with h1 | h1
    · exact p3 h1
    · have := HR.out.lt pB (mem_fp.2 rfl); omega
  · refine Op.trans (X1 := T :: (fp gv ++ ([pB] ++ X))) (HO.out.mono (fun k hk => by simp at hk; simp [hk]) (fun k hk => .inr hk)) (hO.mono (fun k hk => by simp [hk]) (fun k hk => ?_))
    simp at hk ⊢
    rcases hk with h1 | h1 | h1 | h1 <;> simp [h1]

/-- Behind 'tl.goroutines = append(..)'. -/
theorem Tl.added {Y : List Nat} {T wB bB : Nat} {noP : Int} {nv gv ev : Value} {m g1 cap1 : Nat} {xs : List UInt8} {X : List Nat} {out : List UInt8} {w w0 w1 : World} (h : Tl Y T wB bB noP nv gv ev m xs X out w) (h0 : ∀ Z, Op Z w Z w0) (hg : GRow w1 (.slice (some ⟨g1, 0, none⟩) (m + 1) cap1) (m + 1)) (ho : Op (fp gv) w0 [g1] w1) :
    Tl (T :: ([g1] ++ (fp ev ++ X))) T wB bB noP nv (.slice (some ⟨g1, 0, none⟩) (m + 1) cap1) ev (m + 1) xs X out (w1.setCell ⟨T, 3, none⟩ (.slice (some ⟨g1, 0, none⟩) (m + 1) cap1)) ∧
    Op Y w (T :: ([g1] ++ (fp ev ++ X))) (w1.setCell ⟨T, 3, none⟩ (.slice (some ⟨g1, 0, none⟩) (m + 1) cap1)) ∧
    (∀ k, k < w.heap.size → k ∉ Y → (w1.setCell ⟨T, 3, none⟩ (.slice (some ⟨g1, 0, none⟩) (m + 1) cap1)).heap[k]? = w.heap[k]?) := by
  have hT := lt_of_heap h.blk
  have o1 : Op (fp gv) w [g1] w1 := (h0 (fp gv)).trans ho
  have hTb : w1.heap[T]? = some (.cells #[.pointer (some ⟨wB, 0, none⟩), .int .i64 noP, nv, gv, .slice none 0 0, .int .i64 0, .int .i64 0, ev] 48 (0, 0)) := (o1.block T hT h.n1).trans h.blk
  have hgf : fp (.slice (some ⟨g1, 0, none⟩) (m + 1) cap1) = [g1] := rfl
  have hg1 : g1 ∈ fp gv ∨ w.heap.size ≤ g1 := o1.fresh g1 (by simp)
  have hT1 : T ≠ g1 := fun e => by
    rcases hg1 with h1 | h1
    · exact h.n1 (by rw [e]; exact h1)
    · omega
  have os : Op [T] w1 [T] (w1.setCell ⟨T, 3, none⟩ (.slice (some ⟨g1, 0, none⟩) (m + 1) cap1)) := Op.setCell (by simp) _
  have hev : g1 ∉ fp ev := fun hk => by
    rcases hg1 with h1 | h1
    · exact h.n4 _ h1 hk
    · have := h.row.lt _ hk; omega
  have hX : g1 ∉ X := fun hk => by
    rcases hg1 with h1 | h1
    · exact h.n5 _ h1 hk
    · have := h.wr.lt _ hk; omega
  have hop : Op Y w (T :: ([g1] ++ (fp ev ++ X))) (w1.setCell ⟨T, 3, none⟩ (.slice (some ⟨g1, 0, none⟩) (m + 1) cap1)) := by
    refine Op.trans (X1 := T :: ([g1] ++ (fp ev ++ X))) (o1.mono (fun k hk => by rw [h.foot]; simp [hk]) (fun k hk => ?_)) (os.mono (fun k hk => by simp at hk; simp [hk]) (fun k hk => .inr hk))
    rw [h.foot]
    simp at hk ⊢
    rcases hk with h1 | h1 | h1 | h1 <;> simp [h1]
  refine ⟨⟨?_, ?_, ?_, ?_, ?_, h.n2, h.n3, ?_, ?_, h.n6, rfl⟩, hop, fun k hk hY => hop.block k hk hY⟩
  · rw [Lib.heap_setCell_same hTb]; simp
  · exact hg.op os (fun k hk => by simp at hk; rw [hk, hgf]; simpa using hT1)
  · exact (h.row.op o1 (fun k hk hk' => h.n4 k hk hk')).op os (fun k hk => by simp at hk; rw [hk]; exact h.n2)
  · exact (h.wr.op o1 (fun k hk hk' => h.n5 k hk hk')).op os (fun k hk => by simp at hk; rw [hk]; exact h.n3)
  · rw [hgf]; simpa using hT1
  · intro k hk; rw [hgf] at hk; simp at hk; rw [hk]; exact hev
  · intro k hk; rw [hgf] at hk; simp at hk; rw [hk]; exact hX
end Go.Proofs.Qxb6614809aDoor
