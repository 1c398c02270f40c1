/-
  The functions that append a piece of text.
-/
import Derived.Test.Qxb6614809aDoorInts
namespace Go.Proofs.Qxb6614809aDoor
open Go.RowKit
set_option linter.unusedVariables false

/-- The facts on a row that every contract hands on. -/
structure At (B : Nat) (w : World) (v : Value) (xs : List UInt8) : Prop where
  row : Row w v xs
  hB : B ≤ w.heap.size
  low : ∀ k ∈ fp v, B ≤ k
  tab : TabB B w
theorem At.op {B : Nat} {w w' : World} {v v' : Value} {xs ys : List UInt8} (h : At B w v xs) (hr : Row w' v' ys) (ho : Op (fp v) w (fp v') w') : At B w' v' ys :=
  ⟨hr, Nat.le_trans h.hB ho.size, ho.low h.low h.hB, h.tab.op ho h.low h.hB⟩
theorem At.str {B : Nat} {w : World} {v : Value} {xs : List UInt8} (h : At B w v xs) (s : ByteArray) (hlen : xs.length + s.size ≤ 1000000000) :
    ∃ v' w', Hid ((Builtin.append_ #[29, 9] 29 #[v, .string s]).run Tryd.prog w = .ok v' w') ∧ Hid (At B w' v' (xs ++ s.data.toList)) ∧ Hid (Op (fp v) w (fp v') w') := by
  obtain ⟨v', w', hr, h1, h2⟩ := app_str w v xs s h.row hlen
  exact ⟨v', w', hr, h.op h1 h2, h2⟩
theorem At.alloc {B : Nat} {w : World} {v : Value} {xs : List UInt8} (h : At B w v xs) (o : Obj) : At B (w.alloc o) v xs :=
  h.op (World.ownsRow.alloc h.row o) (Op.alloc _ _ _)
/-- append(v, c0, c1, ..): the bytes are laid in a block of their own first. -/
theorem At.lit {B : Nat} {w : World} {v : Value} {xs : List UInt8} (h : At B w v xs) (ys : List UInt8) (c : Array Value) (n : Nat) (hn : ys.length = n) (hc : c = (Lib.byteCells ys).toArray) (hlen : xs.length + n ≤ 1000000000) :
    ∃ v' w', Hid ((Builtin.append_ #[29, 29] 29 #[v, .slice (some ⟨w.heap.size, 0, none⟩) n n]).run Tryd.prog (w.alloc (.cells c 5)) = .ok v' w') ∧ Hid (At B w' v' (xs ++ ys)) ∧ Hid (Op (fp v) w (fp v') w') := by
  obtain ⟨v', w', hr, h1, h2⟩ := app_bytes (w.alloc (.cells c 5)) v xs ys ⟨w.heap.size, 0, none⟩ n n (World.ownsRow.alloc h.row _) hn (fun j hj => by
    rw [lit_cell, hc]; simp [Lib.byteCells, hj, List.getD_eq_getElem?_getD]) hlen
  exact ⟨v', w', hr, (h.alloc (.cells c 5)).op h1 h2, (Op.alloc (fp v) w (.cells c 5)).trans h2⟩

theorem AppendInt_at {B : Nat} {w : World} {v : Value} {xs : List UInt8} (h : At B w v xs) (i : Int) (h0 : -9223372036854775808 ≤ i) (h1 : i ≤ 9223372036854775807) (hlen : xs.length ≤ 800000000) :
    Calls Tryd.prog 22 #[v, .int .i64 i, .int .i64 10] w fun e w' => ∃ v', e = .returned v' ∧ At B w' v' (xs ++ Lib.itoa i) ∧ Op (fp v) w (fp v') w' := by
  refine (appendInt_pub v xs i h0 h1 B w h.row hlen h.hB h.low h.tab).mono ?_
  rintro e w' ⟨v', rfl, h2, h3⟩
  exact ⟨v', rfl, h.op h2 h3, h3⟩

theorem itoa_le (i : Int) (h0 : -9223372036854775808 ≤ i) (h1 : i ≤ 9223372036854775807) : (Lib.itoa i).length ≤ 21 := Lib.itoa_length_le i h0 h1

set_option maxHeartbeats 1000000 in
/-- sim.appendInt. -/
theorem appendInt_at {B : Nat} {w : World} {v : Value} {xs : List UInt8} (h : At B w v xs) (key : ByteArray) (i : Int) (h0 : -9223372036854775808 ≤ i) (h1 : i ≤ 9223372036854775807) (hk : key.size ≤ 10) (hlen : xs.length ≤ 700000000) :
    Calls Tryd.prog 20 #[v, .string key, .int .i64 i] w fun e w' => ∃ v', e = .returned v' ∧ At B w' v' (xs ++ [44, 34] ++ key.data.toList ++ [34, 58] ++ Lib.itoa i) ∧ Op (fp v) w (fp v') w' := by
  have hkl : key.data.toList.length = key.size := rfl
  obtain ⟨v1, w1, A1, H1, O1⟩ := h.str ⟨#[44, 34]⟩ (by show _ + 2 ≤ _; omega)
  obtain ⟨v2, w2, A2, H2, O2⟩ := H1.out.str key (by simp; omega)
  obtain ⟨v3, w3, A3, H3, O3⟩ := H2.out.str ⟨#[34, 58]⟩ (by show _ + 2 ≤ _; simp; omega)
  have HU := hide (AppendInt_at H3.out i h0 h1 (by simp; omega))
  have O := hide (O1.out.trans (O2.out.trans O3.out))
  clear h hkl
  go_enter Tryd.func20, Tryd.ntmps20
  go_wp2_with (at_builtin; refine wpL_app rfl _ _ 29 9 rfl v _ rfl rfl A1.out ?_; refine Hid.out ?_)
  refine hide ?_
  go_wp2_with (at_builtin; refine wpL_app rfl _ _ 29 9 rfl v1 _ rfl rfl A2.out ?_; refine Hid.out ?_)
  refine hide ?_
  go_wp2_with (at_builtin; refine wpL_app rfl _ _ 29 9 rfl v2 _ rfl rfl A3.out ?_; refine Hid.out ?_)
  refine hide ?_
  go_wp2_with fail
  refine HU.out.mono ?_
  rintro e w4 ⟨v4, rfl, h4, o4⟩
  have H4 := hide h4
  have O4 := hide (O.out.trans o4)
  clear h4 o4
  go_wp2
  go_ret
  exact ⟨v4, rfl, H4.out, O4.out⟩
end Go.Proofs.Qxb6614809aDoor
