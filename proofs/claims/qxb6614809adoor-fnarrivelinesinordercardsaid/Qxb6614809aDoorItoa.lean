/-
  zzItoa.
-/
import Derived.Test.Qxb6614809aDoorEq
namespace Go.Proofs.Qxb6614809aDoor
open Go.RowKit
set_option linter.unusedVariables false

/-- The digits of u, none for 0. -/
def dgs (u : Nat) : List UInt8 := if u = 0 then [] else Lib.decDigits u
theorem dgs_step (u : Nat) (h : u ≠ 0) : dgs u = dgs (u / 10) ++ [UInt8.ofNat (48 + u % 10)] := by
  unfold dgs
  rw [if_neg h]
  by_cases h1 : u < 10
  · rw [if_pos (by omega), Lib.decDigits, dif_pos h1, Nat.mod_eq_of_lt h1]; rfl
  · rw [if_neg (by omega), Lib.decDigits, dif_neg h1]
theorem dgs_len (u : Nat) (h : u < 18446744073709551616) : (dgs u).length ≤ 20 := by
  unfold dgs
  split
  · simp
  · rw [Lib.decDigits_length]; exact Lib.nDigits_le20 u h

/-- At the loop's head: i of the 20 cells are still to be written. -/
structure Dig (g u0 u i : Nat) (w1 wr : World) : Prop where
  ex : ∃ cur ds, wr.heap[g]? = some (.cells cur 75 (0, 0)) ∧ cur.size = 20 ∧ cur.toList.drop i = Lib.byteCells ds ∧ ds.length + i = 20 ∧ dgs u0 = dgs u ++ ds ∧ Op [g] w1 [g] wr

theorem dig_start (w : World) (u0 : Nat) (c : Array Value) (hc : c.size = 20) : Dig w.heap.size u0 u0 20 (w.alloc (.cells c 75)) (w.alloc (.cells c 75)) ∧ Op [] w [] (w.alloc (.cells c 75)) :=
  ⟨⟨c, [], by simp only [alloc_heap, Array.getElem?_push_size], hc, by rw [List.drop_eq_nil_of_le (by simp [hc])]; rfl, rfl, by simp, Op.refl _ _⟩, Op.alloc _ _ _⟩

theorem Dig.fact {g u0 u i : Nat} {w1 wr : World} (h : Dig g u0 u i w1 wr) (hu : u ≠ 0) (h0 : u0 < 18446744073709551616) : 1 ≤ i ∧ (∃ old, wr.cell? ⟨g, i - 1, none⟩ = some old) ∧ wr.frozen? ⟨g, i - 1, none⟩ = false := by
  obtain ⟨cur, ds, h1, h2, h3, h4, h5, h6⟩ := h.ex
  have hl := dgs_len u0 h0
  rw [h5, dgs_step u hu] at hl
  simp at hl
  refine ⟨by omega, ⟨cur[i - 1]'(by omega), ?_⟩, frozen_of_heap h1 _⟩
  rw [cell_of_heap h1]
  exact Array.getElem?_eq_getElem (by omega)
theorem Dig.step {g u0 u i : Nat} {w1 wr : World} (h : Dig g u0 u i w1 wr) (hu : u ≠ 0) (hi : 1 ≤ i) : Dig g u0 (u / 10) (i - 1) w1 (wr.setCell ⟨g, i - 1, none⟩ (.int .u8 (48 + (u : Int) % 10))) := by
  obtain ⟨cur, ds, h1, h2, h3, h4, h5, h6⟩ := h.ex
  have hb : (.int .u8 (48 + (u : Int) % 10) : Value) = .int .u8 (((UInt8.ofNat (48 + u % 10)).toNat : Nat) : Int) := by
    have : (UInt8.ofNat (48 + u % 10)).toNat = 48 + u % 10 := by
      rw [UInt8.toNat_ofNat']; omega
    rw [this]
    congr 1
  refine ⟨cur.setIfInBounds (i - 1) (.int .u8 (48 + (u : Int) % 10)), UInt8.ofNat (48 + u % 10) :: ds, ?_, by simpa using h2, ?_, by simp; omega, ?_, h6.trans (Op.setCell (a := ⟨g, i - 1, none⟩) (by simp) _)⟩
  · rw [Lib.heap_setCell_same h1]
  · rw [hb, Array.toList_setIfInBounds, List.drop_set, if_neg (by omega)]
    rw [List.drop_eq_getElem_cons (by rw [Array.length_toList]; omega)]
    rw [show i - 1 + 1 = i by omega, h3]
    simp [Lib.byteCells]
  · rw [h5, dgs_step u hu]; simp

theorem Dig.end {g u0 i : Nat} {w1 wr : World} (h : Dig g u0 0 i w1 wr) (h0 : 1 ≤ u0) : ∃ ds, ds = Lib.decDigits u0 ∧ ds.length + i = 20 ∧ (∀ j, j < ds.length → wr.cell? ⟨g, i + j, none⟩ = some (.int .u8 ((ds.getD j 0).toNat : Int))) ∧ Op [g] w1 [g] wr := by
  obtain ⟨cur, ds, h1, h2, h3, h4, h5, h6⟩ := h.ex
  refine ⟨ds, ?_, h4, ?_, h6⟩
  · simp [dgs, show ¬ u0 = 0 by omega] at h5
    exact h5.symm
  · intro j hj
    rw [cell_of_heap h1]
    have : (cur.toList.drop i)[j]? = (Lib.byteCells ds)[j]? := by rw [h3]
    rw [List.getElem?_drop] at this
    rw [← Array.getElem?_toList, this]
    simp [Lib.byteCells, hj, List.getD_eq_getElem?_getD]

theorem row_empty (w : World) : Row (w.alloc (.cells #[] 5)) (.slice (some ⟨w.heap.size, 0, none⟩) 0 0) [] := World.ownsRow_made w _ 0 (Nat.zero_le _) (by decide) rfl

theorem dec_pos (u : Nat) : 1 ≤ (Lib.decDigits u).length := by rw [Lib.decDigits_length]; exact Lib.nDigits_pos u

theorem slice20 (g j n : Nat) (h : n + j = 20) (hn : 1 ≤ n) (W : World) : (Instr.sliceAt 75 (.pointer (some ⟨g, 0, none⟩)) (some (.int .i64 (j : Int))) none none).run Tryd.prog W = .ok (.slice (some ⟨g, j, none⟩) n n) W := by
  have hal : Tryd.prog.arrayLen 75 = 20 := by simp [Program.arrayLen, Tryd.underlying75]
  rw [run_sliceAt_array_l W 75 ⟨g, 0, none⟩ (by simp [Program.arrayLen, Program.elem, Tryd.underlying75]) .i64 (j : Int) (by omega) (by rw [hal]; omega)]
  go_simp
  have h1 : ¬ (20 = j) := by omega
  have h2 : 20 - j = n := by omega
  simp [h1, h2]

theorem Op.new (w : World) (o : Obj) : Op [] w [w.heap.size] (w.alloc o) := ⟨rfl, rfl, rfl, (Op.alloc [] w o).size, (Op.alloc [] w o).block, fun k hk => .inr (by simp at hk; omega)⟩

/-- The last append. -/
theorem tail_any {g u0 i : Nat} {w w1 wr W : World} {v0 : Value} {xs : List UInt8} (h : Dig g u0 0 i w1 wr) (h0 : 1 ≤ u0) (hu : u0 < 18446744073709551616) (hO : Op [] w [] w1) (hg : w.heap.size = g) (hr0 : Row W v0 xs) (hW : Op [] wr (fp v0) W) (hx : xs.length ≤ 1) : ∃ (ds : List UInt8) (v' : Value) (w' : World), Hid (ds.length + i = 20 ∧ 1 ≤ ds.length) ∧
    Hid ((Builtin.append_ #[29, 29] 29 #[v0, .slice (some ⟨g, i, none⟩) ds.length ds.length]).run Tryd.prog W = .ok v' w') ∧ Hid (Row w' v' (xs ++ Lib.decDigits u0)) ∧ Hid (Op [] w (fp v') w') := by
  obtain ⟨ds, rfl, h1, h2, h3⟩ := h.end h0
  have hp := dec_pos u0
  have hlt : g < wr.heap.size := by
    obtain ⟨cur, ds, e, _⟩ := h.ex
    exact lt_of_heap e
  obtain ⟨v', w', hr, hrow, hop⟩ := app_bytes W v0 xs (Lib.decDigits u0) ⟨g, i, none⟩ _ _ hr0 rfl (fun j hj => by
    rw [Lib.add_plain]
    exact (World.cell?_of_block (a := ⟨g, i + j, none⟩) (hW.block g hlt (by simp))).trans (h2 j hj)) (by omega)
  refine ⟨_, v', w', ⟨h1, hp⟩, hr, hrow, ?_⟩
  have o1 : Op [] w [g] wr := ⟨h3.os.trans hO.os, h3.tape.trans hO.tape, h3.output.trans hO.output, Nat.le_trans hO.size h3.size, fun k hk _ => (h3.block k (Nat.lt_of_lt_of_le hk hO.size) (by simp; omega)).trans (hO.block k hk (by simp)), fun k hk => .inr (by simp at hk; omega)⟩
  exact (o1.trans ((hW.right [g]).trans (hop.right [g]))).mono (by simp) (fun k hk => .inl (by simp [hk]))

theorem tail_pos {g u0 i : Nat} {w w1 wr : World} (h : Dig g u0 0 i w1 wr) (h0 : 1 ≤ u0) (hu : u0 < 18446744073709551616) (hO : Op [] w [] w1) (hg : w.heap.size = g) : ∃ (ds : List UInt8) (v' : Value) (w' : World), Hid (ds.length + i = 20 ∧ 1 ≤ ds.length) ∧
    Hid ((Builtin.append_ #[29, 29] 29 #[.slice (some ⟨wr.heap.size, 0, none⟩) 0 0, .slice (some ⟨g, i, none⟩) ds.length ds.length]).run Tryd.prog (wr.alloc (.cells #[] 5)) = .ok v' w') ∧ Hid (Row w' v' ([] ++ Lib.decDigits u0)) ∧ Hid (Op [] w (fp v') w') :=
  tail_any h h0 hu hO hg (row_empty wr) (Op.new _ _) (by simp)

/-- The sign. -/
theorem tail_neg (wr : World) : ∃ v1 W, Hid ((Builtin.append_ #[29, 29] 29 #[.slice (some ⟨wr.heap.size, 0, none⟩) 0 0, .slice (some ⟨wr.heap.size + 1, 0, none⟩) 1 1]).run Tryd.prog ((wr.alloc (.cells #[] 5)).alloc (.cells #[.int .u8 45] 5)) = .ok v1 W) ∧ Hid (Row W v1 [45]) ∧ Hid (Op [] wr (fp v1) W) := by
  obtain ⟨v', w', hr, hrow, hop⟩ := app_bytes ((wr.alloc (.cells #[] 5)).alloc (.cells #[.int .u8 45] 5)) (.slice (some ⟨wr.heap.size, 0, none⟩) 0 0) [] [45] ⟨wr.heap.size + 1, 0, none⟩ 1 1 (World.ownsRow.alloc (row_empty wr) _) rfl (fun j hj => by
    have hs : wr.heap.size + 1 = (wr.alloc (.cells #[] 5)).heap.size := by simp
    rw [hs, lit_cell]
    simp at hj
    subst hj
    rfl) (by simp)
  exact ⟨v', w', hr, hrow, (Op.new wr (.cells #[] 5)).trans ((Op.alloc _ _ _).trans hop)⟩

set_option maxRecDepth 100000 in
set_option maxHeartbeats 2000000 in
theorem itoa_pos (u0 : Nat) (w : World) (h0 : 1 ≤ u0) (h1 : u0 ≤ 9223372036854775807) :
    Calls Tryd.prog 16 #[.int .i64 (u0 : Int)] w fun e w' => ∃ v, e = .returned v ∧ Row w' v (Lib.decDigits u0) ∧ Op [] w (fp v) w' := by
  have e0 : decide ((u0 : Int) = 0) = false := by simp; omega
  have e1 : decide ((u0 : Int) < 0) = false := by simp
  go_enter Tryd.func16, Tryd.ntmps16
  go_wp2_with fail
  have HS := hide (dig_start w u0 #[.int .u8 0, .int .u8 0, .int .u8 0, .int .u8 0, .int .u8 0, .int .u8 0, .int .u8 0, .int .u8 0, .int .u8 0, .int .u8 0, .int .u8 0, .int .u8 0, .int .u8 0, .int .u8 0, .int .u8 0, .int .u8 0, .int .u8 0, .int .u8 0, .int .u8 0, .int .u8 0] rfl)
  generalize (w.alloc (.cells #[.int .u8 0, .int .u8 0, .int .u8 0, .int .u8 0, .int .u8 0, .int .u8 0, .int .u8 0, .int .u8 0, .int .u8 0, .int .u8 0, .int .u8 0, .int .u8 0, .int .u8 0, .int .u8 0, .int .u8 0, .int .u8 0, .int .u8 0, .int .u8 0, .int .u8 0, .int .u8 0] 75)) = w1 at *
  have HD := hide HS.out.1
  have HO := hide HS.out.2
  clear HS
  generalize hg : w.heap.size = g at *
  have HG := hide hg
  clear hg e0 e1
  go_loopg [4, 6] u0 (fun gk u i wr => ∃ (k j : Nat), gk = k ∧ k ≤ 9223372036854775808 ∧ j ≤ 20 ∧ u = .int .u64 k ∧ i = .int .i64 j ∧ Hid (Dig g u0 k j w1 wr))
  case atStart => exact ⟨u0, 20, rfl, by omega, by omega, rfl, rfl, HD.out⟩
  case round =>
    clear HD
    obtain ⟨k, j, rfl, hk, hj, rfl, rfl, hd⟩ := hrel
    by_cases hz : gk = 0
    · subst hz
      obtain ⟨ds, v', w', H1, H2, H3, H4⟩ := tail_pos hd.out h0 (by omega) HO.out HG.out
      have hsl := slice20 g j ds.length H1.out.1 H1.out.2
      go_wp2_with (at_builtin; refine wpL_app rfl _ _ 29 29 rfl _ _ rfl rfl H2.out ?_; refine Hid.out ?_)
      refine hide ?_
      go_wp2
      go_ret
      exact ⟨v', rfl, by have := H3.out; simpa using this, H4.out⟩
    · have hk0 : decide ((gk : Int) > 0) = true := by simp; omega
      obtain ⟨hj1, ⟨old, ho⟩, hf⟩ := hd.out.fact hz (by omega)
      go_wp2
      go_roundg (gk / 10)
      case measure => omega
      case rel => exact ⟨gk / 10, j - 1, rfl, by omega, by omega, by go_num, by go_num, hd.out.step hz hj1⟩
set_option maxRecDepth 100000 in
set_option maxHeartbeats 2000000 in
theorem itoa_neg (u0 : Nat) (w : World) (h0 : 1 ≤ u0) (h1 : u0 ≤ 9223372036854775808) :
    Calls Tryd.prog 16 #[.int .i64 (-(u0 : Int))] w fun e w' => ∃ v, e = .returned v ∧ Row w' v (45 :: Lib.decDigits u0) ∧ Op [] w (fp v) w' := by
  have e0 : decide ((-(u0 : Int)) = 0) = false := by simp; omega
  have e1 : decide ((-(u0 : Int)) < 0) = true := by simp; omega
  go_enter Tryd.func16, Tryd.ntmps16
  go_wp2_with fail
  have HS := hide (dig_start w u0 #[.int .u8 0, .int .u8 0, .int .u8 0, .int .u8 0, .int .u8 0, .int .u8 0, .int .u8 0, .int .u8 0, .int .u8 0, .int .u8 0, .int .u8 0, .int .u8 0, .int .u8 0, .int .u8 0, .int .u8 0, .int .u8 0, .int .u8 0, .int .u8 0, .int .u8 0, .int .u8 0] rfl)
  generalize (w.alloc (.cells #[.int .u8 0, .int .u8 0, .int .u8 0, .int .u8 0, .int .u8 0, .int .u8 0, .int .u8 0, .int .u8 0, .int .u8 0, .int .u8 0, .int .u8 0, .int .u8 0, .int .u8 0, .int .u8 0, .int .u8 0, .int .u8 0, .int .u8 0, .int .u8 0, .int .u8 0, .int .u8 0] 75)) = w1 at *
  have HD := hide HS.out.1
  have HO := hide HS.out.2
  clear HS
  generalize hg : w.heap.size = g at *
  have HG := hide hg
  clear hg e0 e1
  go_loopg [4, 6] u0 (fun gk u i wr => ∃ (k j : Nat), gk = k ∧ k ≤ 9223372036854775808 ∧ j ≤ 20 ∧ u = .int .u64 k ∧ i = .int .i64 j ∧ Hid (Dig g u0 k j w1 wr))
  case atStart => exact ⟨u0, 20, rfl, by omega, by omega, by congr 1; omega, rfl, HD.out⟩
  case round =>
    clear HD
    obtain ⟨k, j, rfl, hk, hj, rfl, rfl, hd⟩ := hrel
    by_cases hz : gk = 0
    · subst hz
      obtain ⟨v1, W, G1, G2, G3⟩ := tail_neg wr
      obtain ⟨ds, v', w', H1, H2, H3, H4⟩ := tail_any hd.out h0 (by omega) HO.out HG.out G2.out G3.out (by simp)
      have hsl := slice20 g j ds.length H1.out.1 H1.out.2
      go_wp2_with (at_builtin; refine wpL_app rfl _ _ 29 29 rfl _ _ rfl rfl G1.out ?_; refine Hid.out ?_)
      refine hide ?_
      go_wp2_with (at_builtin; refine wpL_app rfl _ _ 29 29 rfl _ _ rfl rfl H2.out ?_; refine Hid.out ?_)
      refine hide ?_
      go_wp2
      go_ret
      exact ⟨v', rfl, by have := H3.out; simpa using this, H4.out⟩
    · have hk0 : decide ((gk : Int) > 0) = true := by simp; omega
      obtain ⟨hj1, ⟨old, ho⟩, hf⟩ := hd.out.fact hz (by omega)
      go_wp2
      go_roundg (gk / 10)
      case measure => omega
      case rel => exact ⟨gk / 10, j - 1, rfl, by omega, by omega, by go_num, by go_num, hd.out.step hz hj1⟩

theorem row_lit (w : World) (ys : List UInt8) (c : Array Value) (n : Nat) (hn : ys.length = n) (hm : n ≤ 1000) (hc : c = (Lib.byteCells ys).toArray) : Row (w.alloc (.cells c 5)) (.slice (some ⟨w.heap.size, 0, none⟩) n n) ys := by
  subst hn
  refine ⟨by simp [Lib.byteCells], .inr ⟨w.heap.size, ys.length, c, rfl, Nat.zero_le _, by simp only [alloc_heap, Array.getElem?_push_size], Nat.le_refl _, by unfold maxLen; omega, by rw [hc]; simp [Lib.byteCells], by rw [hc]; simp [Lib.byteCells]; rw [List.take_of_length_le (by simp)]⟩⟩

set_option maxRecDepth 100000 in
set_option maxHeartbeats 2000000 in
theorem itoa_zero (w : World) :
    Calls Tryd.prog 16 #[.int .i64 0] w fun e w' => ∃ v, e = .returned v ∧ Row w' v [48] ∧ Op [] w (fp v) w' := by
  go_enter Tryd.func16, Tryd.ntmps16
  go_wp2
  go_ret
  exact ⟨_, rfl, row_lit w [48] _ 1 rfl (by decide) rfl, Op.new _ _⟩

theorem zzItoa_any (i : Int) (h0 : -9223372036854775808 ≤ i) (h1 : i ≤ 9223372036854775807) (w : World) :
    Calls Tryd.prog 16 #[.int .i64 i] w fun e w' => ∃ v, e = .returned v ∧ Row w' v (Lib.itoa i) ∧ Op [] w (fp v) w' := by
  rcases Int.lt_trichotomy i 0 with h | rfl | h
  · obtain ⟨u, rfl⟩ : ∃ u : Nat, i = -(u : Int) := ⟨i.natAbs, by omega⟩
    rw [Lib.itoa_neg u (by omega)]
    exact itoa_neg u w (by omega) (by omega)
  · have e : Lib.itoa 0 = [48] := by
      have := Lib.itoa_nonneg 0
      rw [Lib.decDigits, dif_pos (by decide)] at this
      exact this
    rw [e]
    exact itoa_zero w
  · obtain ⟨u, rfl⟩ : ∃ u : Nat, i = u := ⟨i.toNat, by omega⟩
    rw [Lib.itoa_nonneg]
    exact itoa_pos u w (by omega) (by omega)
end Go.Proofs.Qxb6614809aDoor
