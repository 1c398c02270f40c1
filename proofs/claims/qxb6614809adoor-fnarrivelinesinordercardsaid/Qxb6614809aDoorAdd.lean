/-
  (*timeline).add at an arrive line.
-/
import Derived.Test.Qxb6614809aDoorTime
namespace Go.Proofs.Qxb6614809aDoor
open Go.RowKit
set_option linter.unusedVariables false

set_option maxRecDepth 100000 in
set_option maxHeartbeats 2000000 in
theorem tlAdd_any {B : Nat} (Y : List Nat) (T wB bB E lB tB fB fc m : Nat) (noP t g gi : Int) (nv nv2 gv ev : Value) (xs fs : List UInt8) (X : List Nat) (out : List UInt8) (w : World) (h : Tl Y T wB bB noP nv gv ev m xs X out w) (hB : B ≤ w.heap.size) (hlow : ∀ k ∈ Y, B ≤ k) (htab : TabB B w)
    (hE : w.heap[E]? = some (.cells (logCells lB tB t g gi (.slice (some ⟨fB, 0, none⟩) fs.length fc) nv2) 54 (0, 0))) (hEY : E ∉ Y) (hF : Row w (.slice (some ⟨fB, 0, none⟩) fs.length fc) fs) (hFY : fB ∉ Y) (t0 : -9223372036854775808 ≤ t) (t1 : t ≤ 9223372036854775807) (p0 : -9223372036854775808 ≤ noP) (p1 : noP ≤ 9223372036854775807) (hfl : fs.length ≤ 2000000) (hf0 : 2 ≤ fs.length) (hol : out.length ≤ 100000000) (hm : m ≤ 1000000) (gi0 : 0 ≤ gi) (gi1 : gi ≤ 1000000) :
    Calls Tryd.prog 24 #[.pointer (some ⟨T, 0, none⟩), .pointer (some ⟨E, 2, none⟩)] w fun e w' => e = .returned (.tuple #[]) ∧ ∃ Y' gv' ev' xs' X' out', Tl Y' T wB bB noP nv gv' ev' (m + 1) xs' X' out' w' ∧ out'.length ≤ out.length + fs.length + 400 ∧ Op Y w Y' w' := by
  have hfoot := h.foot
  have hT := lt_of_heap h.blk
  have hElt := lt_of_heap hE
  have hET : E ≠ T := fun e => hEY (by rw [hfoot, e]; simp)
  have ck : w.cell? ⟨E, 3, none⟩ = some (.int .u8 0) := by rw [cell_of_heap hE]; rfl
  have cg : w.cell? ⟨E, 5, none⟩ = some (.int .i64 gi) := by rw [cell_of_heap hE]; rfl
  have c3 : w.cell? ⟨T, 3, none⟩ = some gv := by rw [cell_of_heap h.blk]; rfl
  have f3 : w.frozen? ⟨T, 3, none⟩ = false := frozen_of_heap h.blk 3
  have cga : ∀ o, (w.alloc o).cell? ⟨E, 5, none⟩ = some (.int .i64 gi) := fun o => (World.cell?_of_block (a := ⟨E, 5, none⟩) (Below.heap_alloc w o E hElt)).trans cg
  have c3a : ∀ o, (w.alloc o).cell? ⟨T, 3, none⟩ = some gv := fun o => (World.cell?_of_block (a := ⟨T, 3, none⟩) (Below.heap_alloc w o T hT)).trans c3
  have hTA : ∀ o, T < (w.alloc o).heap.size := fun o => by rw [show (w.alloc o).heap.size = w.heap.size + 1 by simp]; omega
  have HH := hide h
  have HE := hide hE
  have HF := hide hF
  clear h hE hF
  go_enter Tryd.func24, Tryd.ntmps24
  go_wp2_with fail
  go_region_law
    ((refine step_appg (v := gv) (m := m) (N := w.heap.size) rfl _ _ rfl rfl (.int .i32 (IntKind.i32.wrap gi)) (.int .i32 0) rfl rfl (by exact heap_alloc_new w (.cells #[.int .i32 (IntKind.i32.wrap gi), .int .i32 0] 81)) rfl rfl (by exact HH.out.gs.kept (fun k hk => Below.heap_alloc w (.cells #[.int .i32 (IntKind.i32.wrap gi), .int .i32 0] 81) k (HH.out.gs.lt k hk))) hm ?_; intro g1 cap1 w1 HK; have hTb : w1.heap[T]? = w.heap[T]? := (HK.out.2.block T (by exact hTA _) HH.out.n1).trans (Below.heap_alloc w (.cells #[.int .i32 (IntKind.i32.wrap gi), .int .i32 0] 81) T hT); have d3 : w1.cell? ⟨T, 3, none⟩ = some gv := (World.cell?_of_block (a := ⟨T, 3, none⟩) hTb).trans c3; have e3 : w1.frozen? ⟨T, 3, none⟩ = false := (World.frozen?_of_block (a := ⟨T, 3, none⟩) hTb).trans f3; clear hTb))
  all_goals
    obtain ⟨TW, OW, KW⟩ := HH.out.added (w0 := (w.alloc (.cells #[.int .i32 (IntKind.i32.wrap gi), .int .i32 0] 81)).drewN 1) (fun Z => (Op.alloc Z w _).trans (Op.drewN _ _ 1)) HK.out.1 HK.out.2
    have hEW : (w1.setCell ⟨T, 3, none⟩ (.slice (some ⟨g1, 0, none⟩) (m + 1) cap1)).heap[E]? = some (.cells (logCells lB tB t g gi (.slice (some ⟨fB, 0, none⟩) fs.length fc) nv2) 54 (0, 0)) := (KW E hElt hEY).trans HE.out
    have hFW : Row (w1.setCell ⟨T, 3, none⟩ (.slice (some ⟨g1, 0, none⟩) (m + 1) cap1)) (.slice (some ⟨fB, 0, none⟩) fs.length fc) fs := HF.out.kept fun k hk => KW k (HF.out.lt k hk) (by rw [mem_fp] at hk; simp [Value.ownBlock] at hk; rw [← hk]; exact hFY)
    have hBW : B ≤ (w1.setCell ⟨T, 3, none⟩ (.slice (some ⟨g1, 0, none⟩) (m + 1) cap1)).heap.size := Nat.le_trans hB OW.size
    have hlW := OW.low hlow hB
    have htW := htab.op OW hlow hB
    generalize w1.setCell ⟨T, 3, none⟩ (.slice (some ⟨g1, 0, none⟩) (m + 1) cap1) = W at TW OW KW hEW hFW hBW hlW htW ⊢
    clear HK d3 e3
    have hAt : At B W ev xs := ⟨TW.row, hBW, fun k hk => hlW k (by simp [hk]), htW⟩
    have cT1 : W.cell? ⟨T, 1, none⟩ = some (.int .i64 noP) := by rw [cell_of_heap TW.blk]; rfl
    have cT7 : W.cell? ⟨T, 7, none⟩ = some ev := by rw [cell_of_heap TW.blk]; rfl
    have cE6 : W.cell? ⟨E, 6, none⟩ = some (.int .i64 (-1)) := by rw [cell_of_heap hEW]; rfl
    have cE3 : W.cell? ⟨E, 3, none⟩ = some (.int .u8 0) := by rw [cell_of_heap hEW]; rfl
    have cN : W.cell? ⟨1, 0, none⟩ = some (.string ⟨#[97, 114, 114, 105, 118, 101]⟩) := htW.here.2
    have hEWlt := lt_of_heap hEW
    have hTWlt := lt_of_heap TW.blk
    have hEev : E ∉ fp ev := fun hk => hEY (by rw [hfoot]; simp [hk])
    have hFev : fB ∉ fp ev := fun hk => hFY (by rw [hfoot]; simp [hk])
    have HBG := hide (tlBegin_at T hAt cT7 ⟨#[97, 114, 114, 105, 118, 101]⟩ ⟨#[105]⟩ (by decide) (by decide))
    have KE : Hid (∀ (u : Value) (V : World), Op (fp ev) W (fp u) V → V.heap[E]? = some (.cells (logCells lB tB t g gi (.slice (some ⟨fB, 0, none⟩) fs.length fc) nv2) 54 (0, 0))) := fun u V ho => (ho.block E hEWlt hEev).trans hEW
    have HTW := hide TW
    have HOW := hide OW
    have HFW := hide hFW
    clear TW OW KW hEW hFW hBW hlW htW hAt HH HE HF ck cg c3 f3 cga c3a hTA hlow htab hB
    go_wp2_with fail
    refine HBG.out.mono ?_
    rintro e W1 ⟨v1, ys1, rfl, hy1, h1, o1⟩
    have O1 := hide o1
    obtain ⟨v2, W2, A2, H2, O2'⟩ := h1.str ⟨#[44, 34, 115, 34, 58, 34, 116, 34]⟩ (by show _ + 8 ≤ _; omega)
    have O2 := hide (o1.trans O2'.out)
    have HTH := hide (appendThread_at H2.out noP p0 p1 (by simp; omega))
    have HY1 := hide hy1
    clear o1 h1 O2' hy1 HBG
    go_wp2_with (at_builtin; refine wpL_app rfl _ _ 29 9 rfl v1 _ rfl rfl A2.out ?_; refine Hid.out ?_)
    refine hide ?_
    go_wp2_with fail
    refine HTH.out.mono ?_
    rintro e W3 ⟨v3, ys3, rfl, hy3, h3, o3⟩
    have O3 := hide (O2.out.trans o3)
    have cE2 : W3.cell? ⟨E, 2, none⟩ = some (.int .i64 t) := by rw [cell_of_heap (KE.out _ _ O3.out)]; rfl
    have HMI := hide (appendMicros_at h3 t t0 t1 (by have := HY1.out; simp; omega))
    have HY3 := hide hy3
    clear h3 o3 hy3 HTH O2 H2 A2
    go_wp2_with fail
    refine HMI.out.mono ?_
    rintro e W4 ⟨v4, ys4, rfl, hy4, h4, o4⟩
    have O4 := hide (O3.out.trans o4)
    have HY4 := hide hy4
    obtain ⟨v5, W5, A5, H5, O5'⟩ := h4.str ⟨#[44, 34, 97, 114, 103, 115, 34, 58, 123]⟩ (by have := HY1.out; have := HY3.out; show _ + 9 ≤ _; simp; omega)
    have O5 := hide (O4.out.trans O5'.out)
    have cE9 : W5.cell? ⟨E, 9, none⟩ = some (.slice (some ⟨fB, 0, none⟩) fs.length fc) := by rw [cell_of_heap (KE.out _ _ O5.out)]; rfl
    have hF5 : Row W5 (.slice (some ⟨fB, 0, none⟩) fs.length fc) fs := HFW.out.op O5.out (fun k hk => by rw [mem_fp]; intro e; simp [Value.ownBlock] at e; exact hFev (by rw [e]; exact hk))
    have hfc : fs.length ≤ fc ∧ fc ≤ maxLen := by
      rcases hF5.form with ⟨e, _⟩ | ⟨_, _, e, e1, e2, _⟩
      · cases e
      · cases e; exact ⟨e1, e2⟩
    have hfc1 : ¬ fc = 1 := by omega
    have hfc2 : (fc : Int) ≤ 9223372036854775807 := by have := hfc.2; unfold maxLen at this; omega
    have hfc3 := hfc.1
    obtain ⟨v6, W6, A6', h6, O6'⟩ := app_bytes W5 v5 _ (fs.drop 1) ⟨fB, 1, none⟩ (fs.length - 1) (fc - 1) H5.out.row (by simp) (fun j hj => by
      have := hF5.cell (1 + j) (by simp at hj; omega)
      rw [Lib.add_plain, this, show (fs.drop 1).getD j 0 = fs.getD (1 + j) 0 from by rw [List.getD_eq_getElem?_getD, List.getElem?_drop, ← List.getD_eq_getElem?_getD]]) (by have := HY1.out; have := HY3.out; have := HY4.out; simp; omega)
    have A6 := hide A6'
    have H6 := hide (H5.out.op h6 O6')
    have O6 := hide (O5.out.trans O6')
    obtain ⟨v7, W7, A7, H7, O7'⟩ := H6.out.str ⟨#[125, 125]⟩ (by have := HY1.out; have := HY3.out; have := HY4.out; show _ + 2 ≤ _; simp; omega)
    have O7 := hide (O6.out.trans O7'.out)
    have HSE := hide (KE.out _ _ O7.out)
    obtain ⟨L, hL⟩ : ∃ L, L = ys1 ++ (⟨#[44, 34, 115, 34, 58, 34, 116, 34]⟩ : ByteArray).data.toList ++ ys3 ++ ys4 ++ (⟨#[44, 34, 97, 114, 103, 115, 34, 58, 123]⟩ : ByteArray).data.toList ++ fs.drop 1 ++ (⟨#[125, 125]⟩ : ByteArray).data.toList := ⟨_, rfl⟩
    have r7 : Row W7 v7 L := by rw [hL]; exact H7.out.row
    have hLl : L.length ≤ fs.length + 400 := by rw [hL]; have := HY1.out; have := HY3.out; have := HY4.out; simp; omega
    have hL0 : 0 < L.length := by rw [hL, List.length_append]; show 0 < _ + 2; omega
    obtain ⟨pB, pc, hv7, hpn, hpm, hplt⟩ : ∃ g cap, v7 = .slice (some ⟨g, 0, none⟩) L.length cap ∧ L.length ≤ cap ∧ cap ≤ maxLen ∧ g < W7.heap.size := by
      rcases r7.form with ⟨_, e⟩ | h
      · rw [e] at hL0; simp at hL0
      · exact h
    subst hv7
    have TW := HTW.out
    have hfp : pB ∈ fp ev ∨ W.heap.size ≤ pB := O7.out.fresh pB (mem_fp.2 rfl)
    have q1 : pB ≠ T := fun e => by
      rcases hfp with h1 | h1
      · exact TW.n2 (by rw [← e]; exact h1)
      · omega
    have q2 : pB ∉ fp (.slice (some ⟨g1, 0, none⟩) (m + 1) cap1) := fun hk => by
      rcases hfp with h1 | h1
      · exact TW.n4 _ hk h1
      · have := TW.gs.lt _ hk; omega
    have q3 : pB ∉ X := fun hk => by
      rcases hfp with h1 | h1
      · exact TW.n6 _ h1 hk
      · have := TW.wr.lt _ hk; omega
    have TWW : TlW T wB bB noP nv (.slice (some ⟨g1, 0, none⟩) (m + 1) cap1) ev (m + 1) X out W7 :=
      ⟨(O7.out.block T hTWlt TW.n2).trans TW.blk, TW.gs.op O7.out (fun k hk hk' => TW.n4 k hk' hk), TW.wr.op O7.out (fun k hk hk' => TW.n6 k hk hk'), TW.n1, TW.n3, TW.n5⟩
    have HTWR := hide (tlWrite_any T wB bB pB pc (m + 1) noP nv _ ev L X out W7 TWW r7 q1 q2 q3 (by omega))
    have HOP7 : Hid (Op Y w (T :: (fp (.slice (some ⟨g1, 0, none⟩) (m + 1) cap1) ++ ([pB] ++ X))) W7) := HOW.out.trans (O7.out.mono (fun k hk => by simp [hk]) (fun k hk => by
      simp at hk ⊢
      rcases hk with h1 | h1 | h1 | h1
      · simp [h1]
      · right; right; left; rw [mem_fp] at h1; simp [Value.ownBlock] at h1; exact h1.symm
      · left; rw [mem_fp, h1]; rfl
      · simp [h1]))
    have HLL := hide hLl
    have hNE : E ∉ T :: (fp (.slice (some ⟨g1, 0, none⟩) (m + 1) cap1) ++ ([pB] ++ X)) := fun hk => (HOP7.out.fresh E hk).elim hEY (fun h1 => by omega)
    have HNE := hide hNE
    have HE7 : Hid (E < W7.heap.size) := lt_of_heap HSE.out
    clear hNE
    clear h4 o4 hy4 HMI O4 O5' O5 hF5 hfc A6' h6 O6' O6 O7' cE2 H5 O3 hL r7 hLl hL0 hpn hpm hplt TW hfp q1 q2 q3 TWW O7 H6 H7 HTW HOW
    go_wp2_with (at_builtin; refine wpL_app rfl _ _ 29 9 rfl v4 _ rfl rfl A5.out ?_; refine Hid.out ?_)
    refine hide ?_
    go_wp2_with (at_builtin; refine wpL_app rfl _ _ 29 29 rfl v5 _ rfl rfl A6.out ?_; refine Hid.out ?_)
    refine hide ?_
    go_wp2_with (at_builtin; refine wpL_app rfl _ _ 29 9 rfl v6 _ rfl rfl A7.out ?_; refine Hid.out ?_)
    refine hide ?_
    go_wp2_with fail
    refine HTWR.out.mono ?_
    rintro e W8 ⟨rfl, X', hT8, hO8⟩
    have hE8 : W8.heap[E]? = some (.cells (logCells lB tB t g gi (.slice (some ⟨fB, 0, none⟩) fs.length fc) nv2) 54 (0, 0)) := (hO8.block E HE7.out HNE.out).trans HSE.out
    have cE8 : W8.cell? ⟨E, 3, none⟩ = some (.int .u8 0) := by rw [cell_of_heap hE8]; rfl
    have HT8 := hide hT8
    have HO8 := hide (HOP7.out.trans hO8)
    clear hT8 hO8 hE8
    go_wp2
    go_end0
    exact ⟨rfl, _, _, _, L, X', out ++ L, HT8.out, by have := HLL.out; simp; omega, HO8.out⟩
end Go.Proofs.Qxb6614809aDoor
