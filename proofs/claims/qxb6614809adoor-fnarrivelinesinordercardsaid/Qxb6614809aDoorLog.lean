/-
  (*eventLog).begin, appendGroup.
-/
import Derived.Test.Qxb6614809aDoorAdd
namespace Go.Proofs.Qxb6614809aDoor
open Go.RowKit
set_option linter.unusedVariables false

theorem begin_fin {E : Nat} {a0 a1 x2 x3 x4 x5 x6 x7 x8 fv nv fv0 : Value} {t : Int} {w : World} (hE : w.heap[E]? = some (.cells #[a0, a1, x2, x3, x4, x5, x6, x7, x8, fv, nv] 54 (0, 0))) :
    ((((((((w.setCell ⟨E, 2, none⟩ (.int .i64 t)).setCell ⟨E, 3, none⟩ (.int .u8 0)).setCell ⟨E, 4, none⟩ (.int .i64 0)).setCell ⟨E, 5, none⟩ (.int .i64 0)).setCell ⟨E, 6, none⟩ (.int .i64 (-1))).setCell ⟨E, 7, none⟩ (.int .i64 (-1))).setCell ⟨E, 8, none⟩ (.int .i64 0)).setCell ⟨E, 9, none⟩ fv0).heap[E]? = some (.cells #[a0, a1, .int .i64 t, .int .u8 0, .int .i64 0, .int .i64 0, .int .i64 (-1), .int .i64 (-1), .int .i64 0, fv0, nv] 54 (0, 0)) ∧
    Op [E] w [E] ((((((((w.setCell ⟨E, 2, none⟩ (.int .i64 t)).setCell ⟨E, 3, none⟩ (.int .u8 0)).setCell ⟨E, 4, none⟩ (.int .i64 0)).setCell ⟨E, 5, none⟩ (.int .i64 0)).setCell ⟨E, 6, none⟩ (.int .i64 (-1))).setCell ⟨E, 7, none⟩ (.int .i64 (-1))).setCell ⟨E, 8, none⟩ (.int .i64 0)).setCell ⟨E, 9, none⟩ fv0) := by
  have hs := fun (W : World) (i : Nat) (u : Value) => (Op.setCell (X := [E]) (w := W) (a := ⟨E, i, none⟩) (by simp) u)
  refine ⟨?_, (hs _ _ _).trans ((hs _ _ _).trans ((hs _ _ _).trans ((hs _ _ _).trans ((hs _ _ _).trans ((hs _ _ _).trans ((hs _ _ _).trans (hs _ _ _)))))))⟩
  rw [Lib.heap_setCell_same (Lib.heap_setCell_same (Lib.heap_setCell_same (Lib.heap_setCell_same (Lib.heap_setCell_same (Lib.heap_setCell_same (Lib.heap_setCell_same (Lib.heap_setCell_same hE _) _) _) _) _) _) _)]
  simp

set_option maxRecDepth 100000 in
set_option maxHeartbeats 2000000 in
theorem begin_any {B : Nat} (E : Nat) (a0 a1 x2 x3 x4 x5 x6 x7 x8 fv nv : Value) (xs : List UInt8) (t : Int) (w : World) (hE : w.heap[E]? = some (.cells #[a0, a1, x2, x3, x4, x5, x6, x7, x8, fv, nv] 54 (0, 0))) (hA : At B w fv xs) :
    Calls Tryd.prog 18 #[.pointer (some ⟨E, 0, none⟩), .int .i64 t, .int .u8 0] w fun e w' => e = .returned (.pointer (some ⟨E, 2, none⟩)) ∧ ∃ fv0, w'.heap[E]? = some (.cells #[a0, a1, .int .i64 t, .int .u8 0, .int .i64 0, .int .i64 0, .int .i64 (-1), .int .i64 (-1), .int .i64 0, fv0, nv] 54 (0, 0)) ∧ Row w fv0 [] ∧ fp fv0 = fp fv ∧ Op [E] w [E] w' := by
  obtain ⟨v0, hsl, h0, hf0⟩ := hA.trunc
  have c2 : w.cell? ⟨E, 2, none⟩ = some x2 := by rw [cell_of_heap hE]; rfl
  have c3 : w.cell? ⟨E, 3, none⟩ = some x3 := by rw [cell_of_heap hE]; rfl
  have c4 : w.cell? ⟨E, 4, none⟩ = some x4 := by rw [cell_of_heap hE]; rfl
  have c5 : w.cell? ⟨E, 5, none⟩ = some x5 := by rw [cell_of_heap hE]; rfl
  have c6 : w.cell? ⟨E, 6, none⟩ = some x6 := by rw [cell_of_heap hE]; rfl
  have c7 : w.cell? ⟨E, 7, none⟩ = some x7 := by rw [cell_of_heap hE]; rfl
  have c8 : w.cell? ⟨E, 8, none⟩ = some x8 := by rw [cell_of_heap hE]; rfl
  have c9 : w.cell? ⟨E, 9, none⟩ = some fv := by rw [cell_of_heap hE]; rfl
  have f : ∀ j, w.frozen? ⟨E, j, none⟩ = false := fun j => frozen_of_heap hE j
  have HE := hide hE
  have H0 := hide h0
  have HF := hide hf0
  rcases h0.row.2 with ⟨e0, _⟩ | ⟨g, cap, cur, e0, _⟩
  · subst e0
    clear hE h0 hf0 hA
    go_enter Tryd.func18, Tryd.ntmps18
    go_wp2
    go_ret
    exact ⟨rfl, .slice none 0 0, (begin_fin HE.out).1, H0.out.row, HF.out, (begin_fin HE.out).2⟩
  · subst e0
    clear hE h0 hf0 hA
    go_enter Tryd.func18, Tryd.ntmps18
    go_wp2
    go_ret
    exact ⟨rfl, _, (begin_fin HE.out).1, H0.out.row, HF.out, (begin_fin HE.out).2⟩

/-- append(v, hv...), hv a row (nil too). -/
theorem app_row (w : World) (v hv : Value) (xs ys : List UInt8) (h : Row w v xs) (hy : Row w hv ys) (hlen : xs.length + ys.length ≤ 1000000000) :
    ∃ v' w', (Builtin.append_ #[29, 29] 29 #[v, hv]).run Tryd.prog w = .ok v' w' ∧ Row w' v' (xs ++ ys) ∧ Op (fp v) w (fp v') w' := by
  rcases hy.form with ⟨rfl, rfl⟩ | ⟨g, cap, rfl, _⟩
  · exact ⟨v, w, app_nil w v xs h, by rw [List.append_nil]; exact h, Op.refl _ _⟩
  · exact app_bytes w v xs ys ⟨g, 0, none⟩ ys.length cap h rfl (fun j hj => by rw [Lib.add_plain, Nat.zero_add]; exact hy.cell j hj) hlen

theorem step_str {ops : Array Oper} {o : Oper} {a : Act} {K : Act → World → Prop} {Q : Exit → Act → World → Prop} {F : Prop} {B : Nat} {w : World} {v : Value} {xs : List UInt8} (hgd : o.guard = none) (s x : Operand)
    (ho : o.op = .call { callee := .builtin .append, args := #[s, x], argTypes := #[29, 9] }) (ht : o.type = 29) (str : ByteArray) (hs : a.eval s = v) (hx : a.eval x = .string str) (h : At B w v xs) (hlen : xs.length + str.size ≤ 1000000000)
    (hK : ∀ v' w', Hid (At B w' v' (xs ++ str.data.toList) ∧ Op (fp v) w (fp v') w') → K (a.put o.dst v') w') :
    if Region.wanted o (yielded ops a.tmps) = true then Oper.wp Tryd.prog o a w K Q else F := by
  obtain ⟨v', w', hr, h1, h2⟩ := app_str w v xs str h.row hlen
  exact step_app hgd s x 29 9 ho v _ hs hx (by rw [ht]; exact hr) (hK v' w' ⟨h.op h1 h2, h2⟩)
theorem step_row {ops : Array Oper} {o : Oper} {a : Act} {K : Act → World → Prop} {Q : Exit → Act → World → Prop} {F : Prop} {B : Nat} {w : World} {v hv : Value} {xs ys : List UInt8} (hgd : o.guard = none) (s x : Operand)
    (ho : o.op = .call { callee := .builtin .append, args := #[s, x], argTypes := #[29, 29] }) (ht : o.type = 29) (hs : a.eval s = v) (hx : a.eval x = hv) (h : At B w v xs) (hy : Row w hv ys) (hlen : xs.length + ys.length ≤ 1000000000)
    (hK : ∀ v' w', Hid (At B w' v' (xs ++ ys) ∧ Op (fp v) w (fp v') w') → K (a.put o.dst v') w') :
    if Region.wanted o (yielded ops a.tmps) = true then Oper.wp Tryd.prog o a w K Q else F := by
  obtain ⟨v', w', hr, h1, h2⟩ := app_row w v hv xs ys h.row hy hlen
  exact step_app hgd s x 29 29 ho v _ hs hx (by rw [ht]; exact hr) (hK v' w' ⟨h.op h1 h2, h2⟩)

theorem At.drewN {B : Nat} {w : World} {v : Value} {xs : List UInt8} (h : At B w v xs) (n : Nat) : At B (w.drewN n) v xs := h.op (h.row.kept fun _ _ => rfl) (Op.drewN _ _ _)

set_option maxRecDepth 100000 in
set_option maxHeartbeats 2000000 in
/-- appendGroup. -/
theorem appendGroup_any {B : Nat} (E nB n c gi : Nat) (v hv : Value) (xs ys : List UInt8) (w : World) (h : At B w v xs) (hcE : w.cell? ⟨E, 10, none⟩ = some (.slice (some ⟨nB, 0, none⟩) n c)) (hEv : E ∉ fp v) (hElt : E < w.heap.size) (hcn : w.cell? ⟨nB, gi, none⟩ = some hv) (hnv : nB ∉ fp v) (hnlt : nB < w.heap.size) (hgi : gi < n) (hn : n ≤ 1000000)
    (hy : Row w hv ys) (hyv : ∀ k ∈ fp v, k ∉ fp hv) (hlen : xs.length ≤ 100000) (hyl : ys.length ≤ 2000000) :
    Calls Tryd.prog 19 #[.pointer (some ⟨E, 0, none⟩), v, .int .i64 gi] w fun e w' => ∃ v', e = .returned v' ∧ At B w' v' (xs ++ [44, 34, 103, 114, 111, 117, 112, 34, 58] ++ ys) ∧ Op (fp v) w (fp v') w' := by
  have i0 : (0 : Int) ≤ (gi : Int) := by omega
  have i1 : (gi : Int) < (n : Int) := by omega
  have HA := hide h
  have HY := hide hy
  clear h hy
  go_enter Tryd.func19, Tryd.ntmps19
  go_wp2_with fail
  go_region_held3 (fun W => W.cell? ⟨E, 10, none⟩ = some (.slice (some ⟨nB, 0, none⟩) n c) ∧ W.cell? ⟨nB, gi, none⟩ = some hv) (go_keep)
    (first
      | (refine step_str (B := B) (v := v) (xs := xs) rfl _ _ rfl rfl _ rfl rfl (by exact HA.out.drewN 1) (by show _ + 9 ≤ _; omega) ?_; intro v1 w1 HK1; have d1 : w1.cell? ⟨E, 10, none⟩ = some (.slice (some ⟨nB, 0, none⟩) n c) := (World.cell?_of_block (a := ⟨E, 10, none⟩) (HK1.out.2.block E (by exact hElt) hEv)).trans (by exact hcE); have d2 : w1.cell? ⟨nB, gi, none⟩ = some hv := (World.cell?_of_block (a := ⟨nB, gi, none⟩) (HK1.out.2.block nB (by exact hnlt) hnv)).trans (by exact hcn))
      | (refine step_row (B := B) (v := v1) (hv := hv) (ys := ys) rfl _ _ rfl rfl rfl rfl HK1.out.1 (by exact Row.op (w := w.drewN 1) (HY.out.kept (fun _ _ => rfl)) HK1.out.2 hyv) (by simp; omega) ?_; intro v2 w2 HK2; have d3 : w2.cell? ⟨E, 10, none⟩ = some (.slice (some ⟨nB, 0, none⟩) n c) := (World.cell?_of_block (a := ⟨E, 10, none⟩) ((HK1.out.2.trans HK2.out.2).block E (by exact hElt) hEv)).trans (by exact hcE); have d4 : w2.cell? ⟨nB, gi, none⟩ = some hv := (World.cell?_of_block (a := ⟨nB, gi, none⟩) ((HK1.out.2.trans HK2.out.2).block nB (by exact hnlt) hnv)).trans (by exact hcn)))
  go_wp2
  go_ret
  refine ⟨v2, rfl, ?_, ?_⟩
  · have := HK2.out.1
    simpa using this
  · exact (Op.drewN _ _ 1).trans (HK1.out.2.trans HK2.out.2)
end Go.Proofs.Qxb6614809aDoor
