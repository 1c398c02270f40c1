/-
  DERIVED. GIVEN WITH THE SEED: THE CARDS: each row of Qxb6614809aDoorRows.lean that lists a variable, with what it lists TIED to the program's text (the seventh form; the later family's looks); each row that meets fmt, with fmt's text TOLD by the authors' own Lean function (tested against real Go, not proved from fmt's source: count such statements apart). THE CARD IS WHAT COUNTS. Prove the row's statement (the work); the ties are given (Qxb6614809aDoorTie.lean); close each card by the builder's one call (the guide's Derived/Test/ToyasCard.lean, 'card_holds'). Laid BY PROGRAM, IN A SANDBOX (cutbox-door.mjs). By AI agents, Wed Nov 11 2026. No macro, syntax, notation, axiom, sorry.
-/
import Derived.Test.Qxb6614809aDoorRows
import GoSem.ClaimSeven
namespace Go.Proofs.Qxb6614809aDoor
namespace Rows

/-- THE TIED CARD OF 'zzlaws_sim_b1.FnArriveLinesInOrder'. -/
def fnArriveLinesInOrderCard : Claim7 := { stood := { row := fnArriveLinesInOrderRow, standIns := [], harness := (true, "8bfd8b71c3328f7f406960f1637dbcd10f5369c6011e91a7db5fbc937ccba5e0"), looks := true }, kinds := [], alts := [], laidByText := true, laidKinds := [.data, .data, .data, .sentinel, .data], laidTests := true, laidLooks := .later }
def FnArriveLinesInOrderCardSaid : Prop := Claim7.holds Tryd.pinned (.plain (OpenSpec.ofChange fnArriveLinesInOrderSpec)) fnArriveLinesInOrderCard
end Rows
end Go.Proofs.Qxb6614809aDoor
