/-
  (*bytes.Buffer).Write: the walk.
-/
import Derived.Test.Qxb6614809aDoorBuf3
namespace Go.Proofs.Qxb6614809aDoor
open Go.RowKit
set_option linter.unusedVariables false

/-- grow, where there is no room. -/
theorem bufGrow_any (b n : Nat) (v : Value) (lr : Int) (bs : List UInt8) (w : World) (hbk : w.heap[b]? = some (.cells #[v, .int .i64 0, .int .i8 lr] 37 (0, 0))) (hrow : Row w v bs) (hroom : ∀ g l cap, v = .slice (some ⟨g, 0, none⟩) l cap → cap - l < n) (hn : 1 ≤ n) (hlim : bs.length + n ≤ 1000000000) :
    Calls Tryd.prog 68 #[.pointer (some ⟨b, 0, none⟩), .int .i64 n] w fun e w' => e = .returned (.int .i64 bs.length) ∧ ∃ g' cap' cur' lr', Ready b g' cap' bs.length n cur' lr' bs w' ∧ w.heap.size ≤ g' ∧ Op [b] w [b] w' := by
  have hlb := lt_of_heap hbk
  rcases hrow.2 with ⟨rfl, hl0⟩ | ⟨g, cap, cur, rfl, _, hg, hnc, hcm, hcs, htk⟩
  · obtain rfl : bs = [] := List.eq_nil_of_length_eq_zero hl0
    by_cases h64 : n ≤ 64
    · refine (bufGrow_small b n lr w hbk hn h64).mono ?_
      rintro e w' ⟨rfl, g', cap', cur', lr', h1, h2, h3, h4, h5, h6, h7, h8⟩
      exact ⟨rfl, g', cap', cur', lr', ⟨h1, h2, h3, h4, h5, h6, by omega⟩, h7, h8⟩
    · refine (bufGrow_big b n lr w hbk (by omega) (by simp at hlim; omega)).mono ?_
      rintro e w' ⟨rfl, g', cap', cur', lr', h1, h2, h3, h4, h5, h6, h7, h8⟩
      exact ⟨rfl, g', cap', cur', lr', ⟨h1, h2, h3, h4, h5, h6, by omega⟩, h7, h8⟩
  · refine (bufGrow_row b g bs.length cap n lr cur bs w hbk rfl hg hnc hcm (by omega) (by rw [← htk, Nat.mul_one]) hn (hroom g _ cap rfl) hlim).mono ?_
    rintro e w' ⟨rfl, g', cap', cur', lr', h1, h2, h3, h4, h5, h6, h7, h8⟩
    exact ⟨rfl, g', cap', cur', lr', ⟨h1, h2, h3, h4, h5, h6, by omega⟩, h7, h8⟩

/-- tryGrowByReslice, where there is no room. -/
theorem tryGrow_no (b n : Nat) (v : Value) (lr : Int) (bs : List UInt8) (w : World) (hbk : w.heap[b]? = some (.cells #[v, .int .i64 0, .int .i8 lr] 37 (0, 0))) (hrow : Row w v bs) (hroom : ∀ g l cap, v = .slice (some ⟨g, 0, none⟩) l cap → cap - l < n) (hn : 1 ≤ n) :
    Calls Tryd.prog 67 #[.pointer (some ⟨b, 0, none⟩), .int .i64 n] w fun e w' => e = .returned (.tuple #[.int .i64 0, .bool false]) ∧ w' = w := by
  rcases hrow.2 with ⟨rfl, hl0⟩ | ⟨g, cap, cur, rfl, _, hg, hnc, hcm, hcs, htk⟩
  · exact Tryd.Buffer_tryGrow_none b none 0 0 n w (by rw [cell_of_heap hbk]; rfl) (Nat.le_refl _) (Nat.zero_le _) (by omega)
  · exact Tryd.Buffer_tryGrow_none b (some ⟨g, 0, none⟩) bs.length cap n w (by rw [cell_of_heap hbk]; rfl) hnc hcm (hroom g _ cap rfl)

/-- tryGrowByReslice, where there is room. -/
theorem tryGrow_yes (b g cap n : Nat) (lr : Int) (bs : List UInt8) (w : World) (hbk : w.heap[b]? = some (.cells #[.slice (some ⟨g, 0, none⟩) bs.length cap, .int .i64 0, .int .i8 lr] 37 (0, 0))) (hrow : Row w (.slice (some ⟨g, 0, none⟩) bs.length cap) bs) (hgb : g ≠ b) (hroom : n ≤ cap - bs.length) :
    Calls Tryd.prog 67 #[.pointer (some ⟨b, 0, none⟩), .int .i64 n] w fun e w' => e = .returned (.tuple #[.int .i64 bs.length, .bool true]) ∧ ∃ cur, Ready b g cap bs.length n cur lr bs w' ∧ Op [b] w [b] w' := by
  rcases hrow.2 with ⟨h, _⟩ | ⟨g', cap', cur, h, _, hg, hnc, hcm, hcs, htk⟩
  · cases h
  · cases h
    refine (Tryd.Buffer_tryGrow_room b (some ⟨g, 0, none⟩) bs.length cap n w (by rw [cell_of_heap hbk]; rfl) (frozen_of_heap hbk 0) hnc hcm hroom).mono ?_
    rintro e w' ⟨rfl, rfl⟩
    refine ⟨rfl, cur, ⟨?_, ?_, by omega, by omega, hcm, by rw [← htk, Nat.mul_one], hgb⟩, Op.setCell (by simp) _⟩
    · rw [Lib.heap_setCell_same hbk]; simp
    · rw [Below.heap_setCell _ _ _ _ (by simpa using hgb)]; exact hg

set_option maxHeartbeats 2000000 in
/-- Write, the room having been made. -/
theorem bufWrite_any (b m c : Nat) (X : List Nat) (bs ys : List UInt8) (a : Addr) (w : World) (h : IsBuf b X bs w) (hm : ys.length = m) (hm0 : 1 ≤ m) (hab : a.block ≠ b) (hsrc : ∀ j, j < ys.length → w.cell? (a.add j) = some (.int .u8 ((ys.getD j 0).toNat : Int))) (hlim : bs.length + m ≤ 500000000) :
    Calls Tryd.prog 66 #[.pointer (some ⟨b, 0, none⟩), .slice (some a) m c] w fun e w' => e = .returned (.tuple #[.int .i64 m, .nilIface]) ∧ ∃ X', IsBuf b X' (bs ++ ys) w' ∧ Op X w X' w' := by
  obtain ⟨v, lr, hbk, hrow, hbv, rfl⟩ := h
  have hlb := lt_of_heap hbk
  have hab' : (a.add 0).block = a.block := by unfold Addr.add; split <;> rfl
  have hblk : ∀ j, (a.add j).block = a.block := fun j => by unfold Addr.add; split <;> rfl
  have halt : a.block < w.heap.size := by
    have := hsrc 0 (by omega)
    have := World.block_lt_of_cell? w _ this
    rwa [hblk] at this
  -- 'b.lastRead = opInvalid'
  have c2 : w.cell? ⟨b, 2, none⟩ = some (.int .i8 lr) := by rw [cell_of_heap hbk]; rfl
  have f2 : w.frozen? ⟨b, 2, none⟩ = false := frozen_of_heap hbk 2
  have hbk0 : (w.setCell ⟨b, 2, none⟩ (.int .i8 0)).heap[b]? = some (.cells #[v, .int .i64 0, .int .i8 0] 37 (0, 0)) := by rw [Lib.heap_setCell_same hbk]; simp
  have ho0 : Op [b] w [b] (w.setCell ⟨b, 2, none⟩ (.int .i8 0)) := Op.setCell (by simp) _
  have hrow0 : Row (w.setCell ⟨b, 2, none⟩ (.int .i8 0)) v bs := hrow.op ho0 (fun k hk => by rw [List.mem_singleton.1 hk]; exact hbv)
  -- what is left when the room has been made
  have key : ∀ (W : World) (g cap : Nat) (cur : Array Value) (lr' : Int), Ready b g cap bs.length m cur lr' bs W → Op [b] w [b] W → (g ∈ fp v ∨ w.heap.size ≤ g) →
      ∃ W2, (Builtin.copy_ #[29, 29] 3 #[.slice (some ⟨g, bs.length, none⟩) m (cap - bs.length), .slice (some a) m c]).run Tryd.prog W = .ok (goInt m) W2 ∧
      W.cell? ⟨b, 0, none⟩ = some (.slice (some ⟨g, 0, none⟩) (bs.length + m) cap) ∧ bs.length + m ≤ cap ∧ cap ≤ 9223372036854775807 ∧
      ∃ X', IsBuf b X' (bs ++ ys) W2 ∧ Op (b :: fp v) w X' W2 := by
    intro W g cap cur lr' hR ho hg
    refine ⟨_, hR.copy a hm (fun j hj => ?_), by rw [cell_of_heap hR.blk]; rfl, hR.fit, by have := hR.max; unfold maxLen at this; omega, [b, g], hR.fin rfl hm, ?_⟩
    · have hb : W.heap[(a.add j).block]? = w.heap[(a.add j).block]? := by rw [hblk]; exact ho.block _ halt (by simpa using hab)
      rw [World.cell?_of_block hb]; exact hsrc j hj
    · refine ⟨ho.os, ho.tape, ho.output, Nat.le_trans ho.size (op_setRow W g _).size, fun k hk hx => ?_, fun k hk => ?_⟩
      · have hkb : k ≠ b := fun e => hx (by simp [e])
        have hkg : k ≠ g := fun e => by
          rcases hg with hg | hg
          · exact hx (by rw [e]; exact List.mem_cons_of_mem _ hg)
          · omega
        rw [setRow_other _ _ _ _ hkg]; exact ho.block k hk (by simpa using hkb)
      · simp at hk
        rcases hk with rfl | rfl
        · exact .inl (List.mem_cons_self ..)
        · rcases hg with hg | hg
          · exact .inl (List.mem_cons_of_mem _ hg)
          · exact .inr hg
  have HKEY := hide key
  have hml : (m : Int) ≤ 500000000 := by omega
  have hbl : (bs.length : Int) ≤ 500000000 := by omega
  by_cases hroom : ∃ g cap, v = .slice (some ⟨g, 0, none⟩) bs.length cap ∧ m ≤ cap - bs.length
  · obtain ⟨g, cap, rfl, hr⟩ := hroom
    have hgb : g ≠ b := fun e => hbv (mem_fp.2 (by rw [e]; rfl))
    have HT := hide (tryGrow_yes b g cap m 0 bs _ hbk0 hrow0 hgb hr)
    have HO := hide ho0
    clear hbk hrow hbv hsrc hbk0 ho0 hrow0 key hab' hblk halt hlb hr
    go_enter Tryd.func66, Tryd.ntmps66
    go_wp2_with fail
    refine HT.out.mono ?_
    rintro e W1 ⟨rfl, cur, hR, hO⟩
    obtain ⟨W2, hcp, d0, hf1, hf2, X', hX, hOp⟩ := HKEY.out W1 g cap cur 0 hR (HO.out.trans hO) (.inl (mem_fp.2 rfl))
    have HX := hide hX
    have HOP := hide hOp
    clear hR hO hX hOp HO HT HKEY
    go_wp2
    go_ret2
    exact ⟨rfl, X', HX.out, HOP.out⟩
  · have hno : ∀ g l cap, v = .slice (some ⟨g, 0, none⟩) l cap → cap - l < m := fun g l cap e => by
      have hl : l = bs.length := by
        rcases hrow.form with ⟨e', _⟩ | ⟨g', cap', e', _⟩
        · rw [e] at e'; cases e'
        · rw [e] at e'; cases e'; rfl
      subst hl
      exact Nat.lt_of_not_le fun hle => hroom ⟨g, cap, e, hle⟩
    have HT := hide (tryGrow_no b m v 0 bs _ hbk0 hrow0 hno hm0)
    have HG := hide (bufGrow_any b m v 0 bs _ hbk0 hrow0 hno hm0 (by omega))
    have HO := hide ho0
    clear hbk hrow hbv hsrc hbk0 ho0 hrow0 key hab' hblk halt hlb hno hroom
    go_enter Tryd.func66, Tryd.ntmps66
    go_wp2_with fail
    refine HT.out.mono ?_
    rintro e W0 ⟨rfl, rfl⟩
    go_wp2_with fail
    refine HG.out.mono ?_
    rintro e W1 ⟨rfl, g, cap, cur, lr', hR, hg, hO⟩
    obtain ⟨W2, hcp, d0, hf1, hf2, X', hX, hOp⟩ := HKEY.out W1 g cap cur lr' hR (HO.out.trans hO) (.inr (by simpa [World.setCell] using hg))
    have HX := hide hX
    have HOP := hide hOp
    clear hR hO hX hOp HO HT HKEY hg HG
    go_wp2
    go_ret2
    exact ⟨rfl, X', HX.out, HOP.out⟩
end Go.Proofs.Qxb6614809aDoor
