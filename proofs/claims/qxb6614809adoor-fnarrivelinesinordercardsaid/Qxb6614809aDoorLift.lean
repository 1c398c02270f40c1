/-
  The row's lift: what the listed variables give; the arguments opened; the statement of the row.
-/
import Derived.Test.Qxb6614809aDoorLaw3
import Derived.Test.Qxb6614809aDoorRows
import Derived.ProofKit
import Derived.LaidMore
import Derived.OpenShut
import Derived.OpenVars
import Derived.Stop.Joined
import Derived.Stop.LaidErr
import Derived.Lib.LaidTab
import Derived.Deep.Matrix
namespace Go.Proofs.Qxb6614809aDoor
open Go.ChangeShapes Go.WideShapes Go.ChangeAt Go.RowKit
set_option linter.unusedVariables false

/-- The listed variable of the project, off the given row. -/
def nNames : String := Rows.fnArriveLinesInOrderSpec.vars.getD 0 ""

theorem own : ownKnob Tryd.prog.godebug = none := by kernel_rfl
theorem laidOut : laidOutB Tryd.prog = true := by kernel_rfl
theorem cells29 : Tryd.prog.cellsOf 29 = 1 := by kernel_rfl
theorem cells5 : Tryd.prog.cellsOf 5 = 1 := by kernel_rfl
theorem cells9 : Tryd.prog.cellsOf 9 = 1 := by kernel_rfl
theorem gNames : Tryd.prog.globalNamed nNames = some 1 := by kernel_rfl
theorem tNames : (Tryd.prog.globals[1]?).map (·.type) = some 79 := by kernel_rfl
theorem gPow : Tryd.prog.globalNamed Tryd.nPow = some 2 := by kernel_rfl
theorem tPow : (Tryd.prog.globals[2]?).map (·.type) = some 100 := by kernel_rfl
theorem cells74 : Tryd.prog.cellsOf 74 = 1 := by kernel_rfl
theorem cells100 : Tryd.prog.cellsOf 100 = 20 := by kernel_rfl
theorem cells79 : Tryd.prog.cellsOf 79 = 18 := by kernel_rfl

/-- The door's own heap meets the condition. -/
theorem door_met (os : Os) (args : Array Value) : laidMetH Tryd.prog Rows.fnArriveLinesInOrderRow.laid ((World.doorLaid Tryd.prog 400 os).forCall (fun _ _ => 0) ⟨#[], args, []⟩).memory :=
  laidMetH_of_parts3 (fuel := 8) (laidMet_of_run' 8 (by kernel_rfl) (by kernel_rfl)) (by kernel_rfl) (by kernel_rfl)

theorem var_below {W W' : World} {n : String} {g : Nat} {cs : Array Value} (hb : Below W.heap.size W W') (hg : Tryd.prog.globalNamed n = some g) (h : W.var? Tryd.prog n = some cs) : W'.var? Tryd.prog n = some cs := by
  unfold World.var? at h ⊢
  rw [hg] at h ⊢
  simp only [Option.bind_some] at h ⊢
  have hlt : g < W.heap.size := by
    cases hh : W.heap[g]? with
    | none => rw [hh] at h; cases h
    | some o => exact (Array.getElem?_eq_some_iff.1 hh).1
  rw [hb.block g hlt]; exact h

set_option maxRecDepth 100000 in
/-- WHAT THE CONDITION GIVES THE WALKS. -/
theorem of_laid {W : World} (h : laidMetH Tryd.prog Rows.fnArriveLinesInOrderRow.laid W) : TabB W.heap.size W := by
  rw [MakeChecks.laidMetH_plain _ _ _ (by kernel_rfl)] at h
  have h2 : laidMet Tryd.prog ((Tryd.nPow, Lib.tabData .u64 Lib.pow10Tab) :: Rows.fnArriveLinesInOrderRow.laid.drop 3) W := h.tail.tail
  have hT := Lib.tabIs_of_head gPow tPow Tryd.underlying100 Tryd.underlying74 cells74 cells100 h2
  have h4 : laidMet Tryd.prog [(nNames, Rows.laid_example_com_vigilant_scheduler_vigilant_scheduler_sim_lineNames)] W := h2.tail.tail
  obtain ⟨ps, ⟨g1, t1, cs1, f1, p1, q1, hg1, ht1, hv1, hd1, _, _⟩, _, _⟩ := h4
  obtain rfl := Option.some.inj (gNames.symm.trans hg1)
  obtain rfl := Option.some.inj (tNames.symm.trans ht1)
  obtain ⟨xs, m1, rfl, hx1, hlen, hn, hel⟩ := DataW.trod_array Tryd.underlying79 hd1
  have h0 := hel 0 (by decide)
  rw [cells9] at h0
  rw [cells79] at hlen
  have hx0 : ∃ x0, xs[0]? = some x0 := ⟨xs[0]'(by omega), List.getElem?_eq_getElem (by omega)⟩
  obtain ⟨x0, hx0⟩ := hx0
  rw [hx0] at h0
  obtain ⟨s, e1, e2, _⟩ := DataW.trod_string Tryd.underlying9 h0
  have hfst : x0.1 = .lit (.string [97, 114, 114, 105, 118, 101]) := by
    simp only [Prod.mk.injEq, Rows.laid_example_com_vigilant_scheduler_vigilant_scheduler_sim_lineNames, DataW.agg.injEq] at hx1
    have := congrArg (·[0]?) hx1.1
    simp [hx0] at this
    exact this.symm
  have hs : s = ⟨#[97, 114, 114, 105, 118, 101]⟩ := by
    rw [e2] at hfst
    simp only [DataW.lit.injEq, Lit.string.injEq] at hfst
    obtain ⟨⟨l⟩⟩ := s
    simp at hfst
    rw [hfst]
  have hc0 : cs1[0]? = some (.string ⟨#[97, 114, 114, 105, 118, 101]⟩) := by
    have := congrArg (·[0]?) e1
    rw [hs] at this
    simpa using this
  intro W' hb
  refine ⟨var_below hb gPow hT, ?_⟩
  rw [World.var?_cell gNames (var_below hb gNames hv1) 0]
  exact hc0
end Go.Proofs.Qxb6614809aDoor
