/-
  zzArriveLine.
-/
import Derived.Test.Qxb6614809aDoorItoa
import Derived.Lib.SlBytesConst
import Derived.ArgAppend
namespace Go.Proofs.Qxb6614809aDoor
open Go.RowKit
set_option linter.unusedVariables false

theorem byte_cells_at {w : World} {a : Addr} {ys : List UInt8} (hy : ∀ j, j < ys.length → w.cell? (a.add j) = some (.int .u8 ((ys.getD j 0).toNat : Int))) : ∀ j u, (Lib.byteCells ys)[j]? = some u → w.cell? (a.add j) = some u := fun j u hj => by
  have hjl : j < ys.length := by
    have := (List.getElem?_eq_some_iff.1 hj).1
    simpa [Lib.byteCells] using this
  rw [hy j hjl]
  simp [Lib.byteCells, hjl] at hj
  simp [← hj, List.getD_eq_getElem?_getD, hjl]

/-- append onto a full slice: a new row. -/
theorem app_full (w : World) (b : Addr) (n cap : Nat) (xs ys : List UInt8) (a : Addr) (m c : Nat) (hn : xs.length = n) (hx : ∀ j, j < xs.length → w.cell? (b.add j) = some (.int .u8 ((xs.getD j 0).toNat : Int))) (hm : ys.length = m) (hy : ∀ j, j < ys.length → w.cell? (a.add j) = some (.int .u8 ((ys.getD j 0).toNat : Int))) (hg : cap < n + m) (hlen : n + m ≤ 1000000000) :
    ∃ v' w', (Builtin.append_ #[29, 29] 29 #[.slice (some b) n cap, .slice (some a) m c]).run Tryd.prog w = .ok v' w' ∧ Row w' v' (xs ++ ys) ∧ Op [] w (fp v') w' := by
  obtain ⟨i, hi, hz0, hz1, hz2⟩ := info_parts info5
  obtain ⟨v', w', hr, h1, h2⟩ := run_append_arg_grows (P := Tryd.prog) w 29 29 5 i (.int .u8 0) 1 1 Tryd.underlying29 hi hz0 hz1 hz2 rfl (by decide) b n cap (Lib.byteCells xs) (by simp [Lib.byteCells, hn]) (byte_cells_at hx) a m c (Lib.byteCells ys)
    (by simp [Lib.byteCells, hm]) (byte_cells_at hy) hg (by unfold maxLen; omega) (by omega)
  have e : Lib.byteCells (xs ++ ys) = Lib.byteCells xs ++ Lib.byteCells ys := by simp [Lib.byteCells]
  obtain ⟨q1, q2⟩ := h1
  rcases q2 with ⟨_, q⟩ | ⟨gg, cp, cur, rfl, hb, q⟩
  · omega
  refine ⟨_, w', hr, ?_, ?_⟩
  · unfold Row
    rw [List.length_append, hm, hn, e]
    exact ⟨q1, .inr ⟨gg, cp, cur, rfl, Nat.zero_le _, q⟩⟩
  · exact ⟨h2.os, h2.tape, h2.output, h2.size, fun k hk _ => h2.block k hk (by simp), fun k hk => .inr (by rw [mem_fp] at hk; simp [Value.ownBlock] at hk; omega)⟩

theorem marked_cell (w : World) (c : Array Value) (f : Nat × Nat) (j : Nat) : (w.alloc (.cells c 5 f)).cell? ((⟨w.heap.size, 0, none⟩ : Addr).add j) = c[j]? := by
  rw [Lib.add_plain, Nat.zero_add, World.cell?]
  simp [alloc_heap]

/-- A new row, made since w. -/
structure Fr (w : World) (v : Value) (xs : List UInt8) (W : World) : Prop where
  row : Row W v xs
  op : Op [] w (fp v) W
theorem Fr.str {w W : World} {v : Value} {xs : List UInt8} (h : Fr w v xs W) (s : ByteArray) (hlen : xs.length + s.size ≤ 1000000000) :
    ∃ v' W', Hid ((Builtin.append_ #[29, 9] 29 #[v, .string s]).run Tryd.prog W = .ok v' W') ∧ Hid (Fr w v' (xs ++ s.data.toList) W') := by
  obtain ⟨v', w', hr, h1, h2⟩ := app_str W v xs s h.row hlen
  exact ⟨v', w', hr, h1, h.op.trans h2⟩
theorem Fr.app {w W W1 : World} {v u : Value} {xs ys : List UInt8} {X : List Nat} (h : Fr w v xs W) (ho : Op [] W X W1) (hu : Row W1 u ys) (hlen : xs.length + ys.length ≤ 1000000000) :
    ∃ v' W', Hid ((Builtin.append_ #[29, 29] 29 #[v, u]).run Tryd.prog W1 = .ok v' W') ∧ Hid (Fr w v' (xs ++ ys) W') := by
  have o1 : Op (fp v) W (fp v) W1 := ho.mono (by simp) (fun k hk => .inr hk)
  obtain ⟨v', w', hr, h1, h2⟩ := app_row W1 v u xs ys (h.row.op ho (by simp)) hu hlen
  exact ⟨v', w', hr, h1, h.op.trans (o1.trans h2)⟩
theorem Fr.lit {w W : World} {v : Value} {xs : List UInt8} (h : Fr w v xs W) (ys : List UInt8) (c : Array Value) (n : Nat) (hn : ys.length = n) (hc : c = (Lib.byteCells ys).toArray) (hm : n ≤ 1000) (hlen : xs.length + n ≤ 1000000000) :
    ∃ v' W', Hid ((Builtin.append_ #[29, 29] 29 #[v, .slice (some ⟨W.heap.size, 0, none⟩) n n]).run Tryd.prog (W.alloc (.cells c 5)) = .ok v' W') ∧ Hid (Fr w v' (xs ++ ys) W') :=
  h.app (Op.alloc [] W _) (row_lit W ys c n hn hm hc) (by omega)
theorem itoa_one (i : Int) : 1 ≤ (Lib.itoa i).length := by
  unfold Lib.itoa
  split
  · simp
  · exact dec_pos _

set_option maxRecDepth 100000 in
set_option maxHeartbeats 2000000 in
theorem arriveLine_any (t g : Int) (hv : Value) (ys : List UInt8) (w : World) (hy : Row w hv ys) (hyl : ys.length ≤ 1500000) (t0 : -9223372036854775808 ≤ t) (t1 : t ≤ 9223372036854775807) (g0 : -9223372036854775808 ≤ g) (g1 : g ≤ 9223372036854775807) :
    Calls Tryd.prog 10 #[.int .i64 t, .int .i64 g, hv] w fun e w' => ∃ v, e = .returned v ∧ Row w' v (lineOf t (fieldsOf g ys)) ∧ Op [] w (fp v) w' := by
  have HY := hide hy
  have kc := fun (w : World) (C : Array Value) (n c : Nat) => Lib.run_convert_bytes_const (P := Tryd.prog) w 29 5 C n c Tryd.underlying29 Tryd.underlying5
  clear hy
  go_enter Tryd.func10, Tryd.ntmps10
  go_wp2_with fail
  have hO0 := Op.alloc [] w (.cells #[.int .u8 123, .int .u8 34, .int .u8 116, .int .u8 34, .int .u8 58] 5 (5, 6))
  have hM0 : ∀ j, j < ([123, 34, 116, 34, 58] : List UInt8).length → (w.alloc (.cells #[.int .u8 123, .int .u8 34, .int .u8 116, .int .u8 34, .int .u8 58] 5 (5, 6))).cell? ((⟨w.heap.size, 0, none⟩ : Addr).add j) = some (.int .u8 ((([123, 34, 116, 34, 58] : List UInt8).getD j 0).toNat : Int)) := fun j hj => by
    rw [marked_cell]
    rcases j with _ | _ | _ | _ | _ | j
    all_goals first | rfl | (simp at hj; omega)
  have hlt : w.heap.size < (w.alloc (.cells #[.int .u8 123, .int .u8 34, .int .u8 116, .int .u8 34, .int .u8 58] 5 (5, 6))).heap.size := by rw [alloc_heap]; simp
  generalize (w.alloc (.cells #[.int .u8 123, .int .u8 34, .int .u8 116, .int .u8 34, .int .u8 58] 5 (5, 6))) = w1 at *
  have HO0 := hide hO0
  have HM0 := hide hM0
  clear hO0 hM0 kc
  refine (zzItoa_any t t0 t1 w1).mono ?_
  rintro e w2 ⟨u, rfl, hr, ho⟩
  rcases hr.form with ⟨_, e⟩ | ⟨ub, uc, rfl, _⟩
  · have := itoa_one t
    rw [e] at this
    simp at this
  obtain ⟨v3, w3, A3, h3, o3⟩ := app_full w2 ⟨w.heap.size, 0, none⟩ 5 5 [123, 34, 116, 34, 58] (Lib.itoa t) ⟨ub, 0, none⟩ (Lib.itoa t).length uc rfl (fun j hj => by
    have := HM0.out j hj
    rw [Lib.add_plain] at this ⊢
    exact (World.cell?_of_block (a := ⟨w.heap.size, 0 + j, none⟩) (ho.block _ hlt (by simp))).trans this) rfl (fun j hj => by rw [Lib.add_plain, Nat.zero_add]; exact hr.cell j hj) (by have := itoa_one t; omega) (by have := itoa_le t t0 t1; omega)
  have HA3 := hide A3
  have H3 : Hid (Fr w v3 ([123, 34, 116, 34, 58] ++ Lib.itoa t) w3) := ⟨h3, HO0.out.trans ((ho.mono (Y := []) (Y' := []) (by simp) (by simp)).trans o3)⟩
  have hlt := itoa_le t t0 t1
  have hlg := itoa_le g g0 g1
  obtain ⟨v4, w4, A4, H4⟩ := H3.out.str ⟨#[44, 34, 101, 118, 34, 58, 34, 97, 114, 114, 105, 118, 101, 34, 44, 34, 103, 34, 58]⟩ (by show _ + 19 ≤ _; simp; omega)
  have HI := hide (zzItoa_any g g0 g1 w4)
  clear A3 h3 o3 ho hr
  go_wp2_with (at_builtin; refine wpL_app rfl _ _ 29 29 rfl _ _ rfl rfl HA3.out ?_; refine Hid.out ?_)
  refine hide ?_
  go_wp2_with (at_builtin; refine wpL_app rfl _ _ 29 9 rfl v3 _ rfl rfl A4.out ?_; refine Hid.out ?_)
  refine hide ?_
  go_wp2_with fail
  refine HI.out.mono ?_
  rintro e w5 ⟨u5, rfl, hr5, ho5⟩
  obtain ⟨v6, w6, A6, H6⟩ := H4.out.app ho5 hr5 (by simp; omega)
  obtain ⟨v7, w7, A7, H7⟩ := H6.out.str ⟨#[44, 34, 103, 114, 111, 117, 112, 34, 58]⟩ (by show _ + 9 ≤ _; simp; omega)
  obtain ⟨v8, w8, A8, H8⟩ := H7.out.app (Op.refl [] w7) (HY.out.op H7.out.op (by simp)) (by simp; omega)
  obtain ⟨v9, w9, A9, H9⟩ := H8.out.lit [125, 10] #[.int .u8 125, .int .u8 10] 2 rfl rfl (by decide) (by simp; omega)
  clear hr5 ho5
  go_wp2_with (at_builtin; refine wpL_app rfl _ _ 29 29 rfl _ _ rfl rfl A6.out ?_; refine Hid.out ?_)
  refine hide ?_
  go_wp2_with (at_builtin; refine wpL_app rfl _ _ 29 9 rfl v6 _ rfl rfl A7.out ?_; refine Hid.out ?_)
  refine hide ?_
  go_wp2_with (at_builtin; refine wpL_app rfl _ _ 29 29 rfl _ _ rfl rfl A8.out ?_; refine Hid.out ?_)
  refine hide ?_
  go_wp2_with (at_builtin; refine wpL_app rfl _ _ 29 29 rfl _ _ rfl rfl A9.out ?_; refine Hid.out ?_)
  refine hide ?_
  go_wp2
  go_ret
  refine ⟨v9, rfl, ?_, H9.out.op⟩
  have := H9.out.row
  simpa [lineOf, fieldsOf] using this
end Go.Proofs.Qxb6614809aDoor
