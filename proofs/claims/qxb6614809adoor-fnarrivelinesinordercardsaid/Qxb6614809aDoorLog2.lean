/-
  (*eventLog).write.
-/
import Derived.Test.Qxb6614809aDoorLog
namespace Go.Proofs.Qxb6614809aDoor
open Go.RowKit
set_option linter.unusedVariables false

/-- What write leaves. -/
structure Wrote (YL YT : List Nat) (lB wL bL tB wT bT m : Nat) (noP : Int) (nv : Value) (out outT : List UInt8) (n : Nat) (w w' : World) : Prop where
  ex : ∃ YL' lv lx XL YT' gv ev ex XT outT', Ln YL' lB wL bL lv lx XL out w' ∧ Tl YT' tB wT bT noP nv gv ev (m + 1) ex XT outT' w' ∧ outT'.length ≤ outT.length + n + 400 ∧ (∀ k ∈ YL', k ∉ YT') ∧ Op (YL ++ YT) w (YL' ++ YT') w'

set_option maxRecDepth 100000 in
set_option maxHeartbeats 2000000 in
theorem write_any {B : Nat} (E lB tB wL bL wT bT fB fc m : Nat) (YL XL YT XT : List Nat) (lv gv ev nv : Value) (lx ex fs out outT : List UInt8) (noP t g gi : Int) (w : World)
    (hE : w.heap[E]? = some (.cells (logCells lB tB t g gi (.slice (some ⟨fB, 0, none⟩) fs.length fc) nv) 54 (0, 0))) (hL : Ln YL lB wL bL lv lx XL out w) (hT : Tl YT tB wT bT noP nv gv ev m ex XT outT w) (hF : Row w (.slice (some ⟨fB, 0, none⟩) fs.length fc) fs)
    (hEL : E ∉ YL) (hET : E ∉ YT) (hFL : fB ∉ YL) (hFT : fB ∉ YT) (hLT : ∀ k ∈ YL, k ∉ YT) (hB : B ≤ w.heap.size) (lowL : ∀ k ∈ YL, B ≤ k) (lowT : ∀ k ∈ YT, B ≤ k) (htab : TabB B w)
    (t0 : -9223372036854775808 ≤ t) (t1 : t ≤ 9223372036854775807) (p0 : -9223372036854775808 ≤ noP) (p1 : noP ≤ 9223372036854775807) (hfl : fs.length ≤ 2000000) (hf0 : 2 ≤ fs.length) (hol : out.length ≤ 100000000) (holT : outT.length ≤ 100000000) (hm : m ≤ 1000000) (gi0 : 0 ≤ gi) (gi1 : gi ≤ 1000000) :
    Calls Tryd.prog 21 #[.pointer (some ⟨E, 0, none⟩)] w fun e w' => e = .returned (.tuple #[]) ∧ Wrote YL YT lB wL bL tB wT bT m noP nv (out ++ lineOf t fs) outT fs.length w w' := by
  have c0 : w.cell? ⟨E, 0, none⟩ = some (.pointer (some ⟨lB, 0, none⟩)) := by rw [cell_of_heap hE]; rfl
  have c1 : w.cell? ⟨E, 1, none⟩ = some (.pointer (some ⟨tB, 0, none⟩)) := by rw [cell_of_heap hE]; rfl
  have hElt := lt_of_heap hE
  have hfl2 : fB < w.heap.size := hF.lt fB (by rw [mem_fp]; simp [Value.ownBlock])
  have C1 : Hid (∀ W, W = w.drewN 1 → Calls Tryd.prog 23 #[.pointer (some ⟨lB, 0, none⟩), .pointer (some ⟨E, 2, none⟩)] W fun e w' => e = .returned (.tuple #[]) ∧ w'.cell? ⟨E, 0, none⟩ = some (.pointer (some ⟨lB, 0, none⟩)) ∧ w'.cell? ⟨E, 1, none⟩ = some (.pointer (some ⟨tB, 0, none⟩)) ∧ Hid (∃ Y' v' xs' X', Ln Y' lB wL bL v' xs' X' (out ++ lineOf t fs) w' ∧ Op YL w Y' w')) := by
    refine hide ?_
    rintro W rfl
    refine (lineWrite_any (B := B) YL lB wL bL E tB fB fc lv nv lx fs XL out t g gi (w.drewN 1) (hL.kept fun _ _ => rfl) hB lowL (htab.op (Op.drewN [] w 1) (by simp) hB) (by exact hE) hEL (hF.kept fun _ _ => rfl) hFL t0 t1 hfl hol).mono ?_
    rintro e w' ⟨rfl, Y', v', xs', X', h1, h2⟩
    have hb := h2.block E hElt hEL
    exact ⟨rfl, (World.cell?_of_block (a := ⟨E, 0, none⟩) hb).trans (by exact c0), (World.cell?_of_block (a := ⟨E, 1, none⟩) hb).trans (by exact c1), ⟨Y', v', xs', X', h1, (Op.drewN _ _ 1).trans h2⟩⟩
  have C2 : Hid (∀ w1 W, W = w1.drewN 1 → (∃ Y' v' xs' X', Ln Y' lB wL bL v' xs' X' (out ++ lineOf t fs) w1 ∧ Op YL w Y' w1) → Calls Tryd.prog 24 #[.pointer (some ⟨tB, 0, none⟩), .pointer (some ⟨E, 2, none⟩)] W fun e w' => e = .returned (.tuple #[]) ∧ w'.cell? ⟨E, 1, none⟩ = some (.pointer (some ⟨tB, 0, none⟩)) ∧ Hid (Wrote YL YT lB wL bL tB wT bT m noP nv (out ++ lineOf t fs) outT fs.length w w')) := by
    refine hide ?_
    rintro w1 W rfl ⟨YL', lv', lx', XL', h1, h2⟩
    have hTk : Tl YT tB wT bT noP nv gv ev m ex XT outT (w1.drewN 1) := hT.kept fun k hk => h2.block k (hT.lt k hk) (fun hx => hLT k hx hk)
    have hsz := h2.size
    have hE1 : w1.heap[E]? = w.heap[E]? := h2.block E hElt hEL
    refine (tlAdd_any (B := B) YT tB wT bT E lB tB fB fc m noP t g gi nv nv gv ev ex fs XT outT (w1.drewN 1) hTk (by exact Nat.le_trans hB hsz) lowT ((htab.op h2 lowL hB).op (Op.drewN [] w1 1) (by simp) (Nat.le_trans hB hsz)) (by exact hE1.trans hE) hET ((hF.op h2 (by intro k hk; rw [mem_fp]; intro e; simp [Value.ownBlock] at e; exact hFL (e ▸ hk))).kept fun _ _ => rfl) hFT t0 t1 p0 p1 hfl hf0 holT hm gi0 gi1).mono ?_
    rintro e w' ⟨rfl, YT', gv', ev', ex', XT', outT', h3, h4, h5⟩
    have hd1 : ∀ k ∈ YL', k ∉ YT := h2.apart hLT hT.lt
    have hd2 : ∀ k ∈ YT, k ∉ YL' := fun k hk hx => hd1 k hx hk
    have hd3 : ∀ k ∈ YT', k ∉ YL' := h5.apart hd2 (fun k hk => by exact h1.lt k hk)
    have hb := h5.block E (by exact Nat.lt_of_lt_of_le hElt hsz) hET
    refine ⟨rfl, (World.cell?_of_block (a := ⟨E, 1, none⟩) hb).trans ((World.cell?_of_block (a := ⟨E, 1, none⟩) hE1).trans c1), ⟨⟨YL', lv', lx', XL', YT', gv', ev', ex', XT', outT', ?_, h3, h4, fun k hk hx => hd3 k hx hk, ?_⟩⟩⟩
    · exact h1.kept fun k hk => h5.block k (by exact h1.lt k hk) (fun hx => hd2 k hx hk)
    · exact (h2.left YT).trans (((Op.drewN _ w1 1).trans h5).right YL')
  clear hE hL hT hF hEL hET hFL hFT hLT hB lowL lowT htab t0 t1 p0 p1 hfl hf0 hol holT hm gi0 gi1
  go_enter Tryd.func21, Tryd.ntmps21
  go_wp2_with fail
  go_region_held3 (fun W => W.cell? ⟨E, 0, none⟩ = some (.pointer (some ⟨lB, 0, none⟩))) (go_keep)
    (first | (go_at_call 23; refine (C1.out _ (by rfl)).mono ?_; rintro e w1 ⟨rfl, d0, d1, H1⟩))
  go_wp2_with fail
  go_region_held3 (fun W => W.cell? ⟨E, 1, none⟩ = some (.pointer (some ⟨tB, 0, none⟩))) (go_keep)
    (first | (go_at_call 24; refine (C2.out w1 _ (by rfl) H1.out).mono ?_; rintro e w2 ⟨rfl, d2, H2⟩))
  go_wp2
  go_end0
  exact ⟨rfl, H2.out⟩
end Go.Proofs.Qxb6614809aDoor
