/-
  The row.
-/
import Derived.Test.Qxb6614809aDoorLift
namespace Go.Proofs.Qxb6614809aDoor
open Go.ChangeShapes Go.WideShapes Go.ChangeAt Go.RowKit
set_option linter.unusedVariables false

theorem wf_u8 {n : Int} (h : (Lit.int .u8 n).wf = true) : 0 ≤ n ∧ n ≤ 255 := by
  have e1 : IntKind.u8.min = 0 := rfl
  have e2 : IntKind.u8.max = 255 := rfl
  simp only [Lit.wf, Bool.and_eq_true, decide_eq_true_eq, e1, e2] at h
  exact h
theorem wf_i64 {n : Int} (h : (Lit.int .i64 n).wf = true) : -9223372036854775808 ≤ n ∧ n ≤ 9223372036854775807 := by
  have e1 : IntKind.i64.min = -9223372036854775808 := rfl
  have e2 : IntKind.i64.max = 9223372036854775807 := rfl
  simp only [Lit.wf, Bool.and_eq_true, decide_eq_true_eq, e1, e2] at h
  exact h

/-- The bytes of a row that was read as integers. -/
def rowBytes (L : Nat) (zs : List Int) : List UInt8 := (zs.take L).map fun z => UInt8.ofNat z.toNat

theorem rowBytes_at {L j : Nat} {zs : List Int} (hw : ∀ n ∈ zs, (Lit.int .u8 n).wf = true) (hj : j < L) (hl : L ≤ zs.length) : (((rowBytes L zs).getD j 0).toNat : Int) = zs.getD j 0 := by
  have hjz : j < zs.length := by omega
  have hm : zs[j] ∈ zs := List.getElem_mem hjz
  have hb := hw _ hm
  have h1 : (rowBytes L zs).getD j 0 = UInt8.ofNat (zs[j]).toNat := by
    simp [rowBytes, List.getD_eq_getElem?_getD, hj, hjz]
  have h2 : zs.getD j 0 = zs[j] := by simp [List.getD_eq_getElem?_getD, hjz]
  rw [h1, h2]
  obtain ⟨b1, b2⟩ := wf_u8 hb
  rw [UInt8.toNat_ofNat']
  omega

/-- The names that came in: none, or as the walk wants them. -/
theorem open_names {H : Type} {enc : TypeId × Value → H} {W : World} {v : Value} {d : DataW H} {ps : List MemPlace} (hv : ∃ a l c, v = .slice a l c) (h : DataW.Trod enc Tryd.prog W 0 (fun _ => true) true 22 v d ps) :
    (∃ a cap, v = .slice a 0 cap) ∨ ∃ b off len cap A L C Y, v = .slice (some ⟨b, off, none⟩) len cap ∧ len ≤ 9223372036854775807 ∧ Names W b off len A L C Y := by
  obtain ⟨a0, l0, c0, rfl⟩ := hv
  obtain ⟨fuel, hf⟩ := h
  rcases Deep.open_int_rows Tryd.underlying22 Tryd.underlying29 Tryd.underlying5 cells29 cells5 hf with ⟨hcs, _⟩ | ⟨a, len, cap, A, L, C, Z, hcs, _, hl, hm, _, hc⟩
  · simp [Value.cells] at hcs
    obtain ⟨rfl, rfl, rfl⟩ := hcs
    exact .inl ⟨none, 0, rfl⟩
  · simp [Value.cells] at hcs
    obtain ⟨rfl, rfl, rfl⟩ := hcs
    by_cases h0 : l0 = 0
    · subst h0
      exact .inl ⟨some a, c0, rfl⟩
    · obtain ⟨b, off, spot⟩ := a
      have hspot : spot = none := by simpa [Addr.add] using World.cell?_spot (hc 0 (by omega)).1
      subst hspot
      refine .inr ⟨b, off, l0, c0, A, L, C, fun r => rowBytes (L r) (Z r), rfl, by simp only [maxLen] at hm; omega, ⟨fun r hr => ?_, fun r hr hn => ?_, fun r hr => ?_, fun r hr => ?_, fun r hr a' ha j hj => ?_⟩⟩
      · rw [← WideShapes.add_plain]; exact (hc r (by omega)).1
      · obtain ⟨_, q1, _, _, _, q2, _⟩ := hc r (by omega)
        have := q2 hn
        omega
      · obtain ⟨_, q1, _, q3, _⟩ := hc r (by omega)
        simp [rowBytes]; omega
      · obtain ⟨_, q1, q2, _⟩ := hc r (by omega)
        exact ⟨q1, q2⟩
      · obtain ⟨_, q1, q2, q3, q4, _, q6⟩ := hc r (by omega)
        rw [(q6 a' ha).2 j (by omega), rowBytes_at q4 hj (by omega)]
end Go.Proofs.Qxb6614809aDoor
