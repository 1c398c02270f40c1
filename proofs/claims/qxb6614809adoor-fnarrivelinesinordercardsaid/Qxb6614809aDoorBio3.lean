/-
  (*bufio.Writer).Write: the walk.
-/
import Derived.Test.Qxb6614809aDoorBio2
namespace Go.Proofs.Qxb6614809aDoor
open Go.RowKit
set_option linter.unusedVariables false

/-- What holds at the loop's head: the first k bytes of ys have been taken in. -/
structure Rel (wB dB bB pb : Nat) (XB : List Nat) (out ys : List UInt8) (w W : World) (gk k r o c' : Nat) (XB' : List Nat) (cur' : Array Value) (head' tail' : List UInt8) : Prop where
  sum : k + r = ys.length
  cap : r ≤ c'
  capm : c' ≤ 9223372036854775807
  writer : Wr wB dB bB XB' cur' head' tail' W
  text : head' ++ tail' = out ++ ys.take k
  oper : Op (wB :: dB :: XB) w (wB :: dB :: XB') W
  far : pb ∉ wB :: dB :: XB
  old : pb < w.heap.size
  src : ∀ j, j < r → W.cell? ⟨pb, o + j, none⟩ = some (.int .u8 ((ys.getD (k + j) 0).toNat : Int))
  num : gk = 2 * r + (if tail'.length = 0 then 0 else 1)

theorem Rel.far' {wB dB bB pb : Nat} {XB : List Nat} {out ys : List UInt8} {w W : World} {gk k r o c' : Nat} {XB' : List Nat} {cur' : Array Value} {head' tail' : List UInt8} (R : Rel wB dB bB pb XB out ys w W gk k r o c' XB' cur' head' tail') : pb ∉ wB :: dB :: XB' := fun hp => by
  rcases R.oper.fresh _ hp with h1 | h1
  · exact R.far h1
  · have := R.old; omega
theorem Rel.drop_len {wB dB bB pb : Nat} {XB : List Nat} {out ys : List UInt8} {w W : World} {gk k r o c' : Nat} {XB' : List Nat} {cur' : Array Value} {head' tail' : List UInt8} (R : Rel wB dB bB pb XB out ys w W gk k r o c' XB' cur' head' tail') : (ys.drop k).length = r := by
  rw [List.length_drop]; have := R.sum; omega
theorem Rel.cells {wB dB bB pb : Nat} {XB : List Nat} {out ys : List UInt8} {w W : World} {gk k r o c' : Nat} {XB' : List Nat} {cur' : Array Value} {head' tail' : List UInt8} (R : Rel wB dB bB pb XB out ys w W gk k r o c' XB' cur' head' tail') : ∀ j, j < (ys.drop k).length → W.cell? ((⟨pb, o, none⟩ : Addr).add j) = some (.int .u8 (((ys.drop k).getD j 0).toNat : Int)) := fun j hj => by
  rw [Lib.add_plain, R.src j (by rw [← R.drop_len]; exact hj)]
  simp [List.getD_eq_getElem?_getD]

/-- The whole rest has been handed to the Buffer at once. -/
theorem Rel.direct {wB dB bB pb : Nat} {XB : List Nat} {out ys : List UInt8} {w W W' w2 : World} {gk k r o c' : Nat} {XB' XB2 : List Nat} {cur' : Array Value} {head' tail' : List UInt8} (R : Rel wB dB bB pb XB out ys w W gk k r o c' XB' cur' head' tail') (h0 : tail'.length = 0) (hW : W'.heap = W.heap) (hop : Op (wB :: dB :: XB') W (wB :: dB :: XB') W')
    (hb : IsBuf bB XB2 (head' ++ ys.drop k) w2) (ho : Op XB' W' XB2 w2) (o2 : Nat) :
    Rel wB dB bB pb XB out ys w (w2.setCell ⟨wB, 0, none⟩ .nilIface) 0 (k + r) 0 o2 (c' - r) XB2 cur' (head' ++ ys.drop k) [] := by
  obtain rfl : tail' = [] := List.eq_nil_of_length_eq_zero h0
  have hwr := R.writer.kept (w' := W') (fun k _ => by rw [hW])
  have hw1 : w2.heap[wB]? = W'.heap[wB]? := ho.block _ (lt_of_heap hwr.blk) hwr.ne2
  have hd1 : w2.heap[dB]? = W'.heap[dB]? := ho.block _ (lt_of_heap hwr.row) hwr.ne3
  have n2 : wB ∉ XB2 := fun hk => by
    rcases ho.fresh _ hk with h1 | h1
    · exact hwr.ne2 h1
    · have := lt_of_heap hwr.blk; omega
  have n3 : dB ∉ XB2 := fun hk => by
    rcases ho.fresh _ hk with h1 | h1
    · exact hwr.ne3 h1
    · have := lt_of_heap hwr.row; omega
  have hsum := R.sum
  refine ⟨by omega, by omega, by have := R.capm; omega, ⟨?_, ?_, hwr.size, by simp, by simp [Lib.byteCells], ?_, hwr.ne1, n2, n3⟩, ?_, ?_, R.far, R.old, fun j hj => by omega, by simp⟩
  · rw [Lib.heap_setCell_same (by rw [hw1]; exact hwr.blk)]; simp
  · rw [Below.heap_setCell _ _ _ _ (by simpa using Ne.symm hwr.ne1), hd1]; exact hwr.row
  · exact hb.kept fun k hk => Below.heap_setCell _ _ _ _ (fun e => n2 (by have e' : k = wB := e; rw [← e']; exact hk))
  · rw [List.append_nil]
    have ht := R.text
    rw [List.append_nil] at ht
    rw [ht, hsum, List.take_length, List.append_assoc, List.take_append_drop]
  · refine (R.oper.trans hop).trans (Op.trans (X1 := wB :: dB :: XB2) ?_ (Op.setCell (by simp) _))
    exact ho.mono (fun k hk => by simp [hk]) (fun k hk => by simp at hk ⊢; rcases hk with h1 | h1 | h1 <;> simp [h1])

/-- The buffer has been filled up and flushed. -/
theorem Rel.filled {wB dB bB pb : Nat} {XB : List Nat} {out ys : List UInt8} {w W W' W2 wF : World} {gk k r o c' q : Nat} {XB' XB3 : List Nat} {cur' cur2 : Array Value} {head' tail' : List UInt8} (R : Rel wB dB bB pb XB out ys w W gk k r o c' XB' cur' head' tail') (h0 : ¬ tail'.length = 0) (hop : Op (wB :: dB :: XB') W (wB :: dB :: XB') W')
    (hq : q = min (ys.drop k).length (4096 - tail'.length)) (hwF : Wr wB dB bB XB3 cur2 (head' ++ (tail' ++ (ys.drop k).take q)) [] wF) (ho : Op (wB :: dB :: XB') W' (wB :: dB :: XB3) wF) (o2 : Nat) (ho2 : o2 = o + q ∨ r - q = 0) :
    Rel wB dB bB pb XB out ys w wF (2 * (r - q)) (k + q) (r - q) o2 (c' - q) XB3 cur2 (head' ++ (tail' ++ (ys.drop k).take q)) [] := by
  have hsum := R.sum
  have hdl := R.drop_len
  have hcap := R.cap
  have hql : q ≤ r := by omega
  refine ⟨by omega, by omega, by have := R.capm; omega, hwF, ?_, (R.oper.trans hop).trans ho, R.far, R.old, fun j hj => ?_, by simp⟩
  · rw [List.append_nil, ← List.append_assoc, R.text, List.append_assoc]
    congr 1
    rw [← List.take_append_drop k (ys.take (k + q)), List.take_take, Nat.min_eq_left (Nat.le_add_right _ _)]
    congr 1
    rw [List.drop_take]
    congr 1; omega
  · rcases ho2 with rfl | h2
    · have hb : wF.heap[pb]? = W.heap[pb]? := by
        have hlt : pb < W.heap.size := Nat.lt_of_lt_of_le R.old R.oper.size
        have h1 : W'.heap[pb]? = W.heap[pb]? := hop.block _ hlt R.far'
        rw [ho.block _ (Nat.lt_of_lt_of_le hlt hop.size) R.far', h1]
      have hc : wF.cell? ⟨pb, o + q + j, none⟩ = W.cell? ⟨pb, o + q + j, none⟩ := World.cell?_of_block (a := ⟨pb, o + q + j, none⟩) hb
      rw [hc, Nat.add_assoc, R.src (q + j) (by omega), Nat.add_assoc]
    · omega
end Go.Proofs.Qxb6614809aDoor
