/-
  No cell of these rows narrows 'for every input' (looked for: loops, veiled, ifaces, maps, wideKeys, modest, calm, conditions, laid).
  DERIVED. THE GIVEN ROWS OF THIS SEAT. 6 by the template 'for every input the law returns true; each argument reads behind the call as it read before'; 0 by the template 'total and deterministic' (their statements: Qxb6614930aTotals.lean).
  GIVEN WITH THE SEED: the statements are not yours to turn. If you find one false, say at which input.
  Laid BY PROGRAM, IN A SANDBOX (cutbox-rows.mjs): the forced cells as the released guide's own fill.sh prints them over the translation c97943d5b2367ba3… (all of the seat's roots in one cut). By AI agents, Wed Nov 11 2026. No macro, syntax, notation, axiom, sorry.
-/
import Derived.Test.Qxb6614930aChecked
import GoSem.Claim
import GoSem.ClaimJoined
import GoSem.ClaimMapViews
import Derived.JoinedTies
import Derived.KernelRfl
namespace Go.Proofs.Qxb6614930a
/- THE CELL 'sum', in the pinned program and in every row, IS THE sha256 OF THE DUMP (.gsa) THAT Qxb6614930aProg.lean LOADS. Nothing in Lean hashes anything: it is a label: what it is worth is what the hold of that sum in a sandbox is worth. -/
noncomputable def Try.pinned : Pinned := { name := "qxb6614930a", sum := "c97943d5b2367ba3e94171a56ee516ab72be2e89b4b6c93416aaaf1315bb3efb", checked := Try.checked }
namespace Rows
def none {H : Type} : Left H := { results := [], args := [] }

/-- 'zzlaws_internal_toml_b1.FnSkipSpaceCut': WHATEVER THE INPUT: true; the input reads as it did. -/
def fnSkipSpaceCutSpec : ChangeSpec := { name := "fnSkipSpaceCut", fn := fun _ => fun
  | [d1, d2, d3] => { results := [.lit (.bool true)], args := [d1, d2, d3] }
  | _ => none }
def fnSkipSpaceCutRow : OpenClaim := { program := "qxb6614930a", sum := "c97943d5b2367ba3e94171a56ee516ab72be2e89b4b6c93416aaaf1315bb3efb", func := "example.com/attenuation/attenuation/zzlaws_internal_toml_b1.FnSkipSpaceCut", spec := "fnSkipSpaceCut", apart := false }
def FnSkipSpaceCutSaid : Prop := fnSkipSpaceCutRow.holds Try.pinned (OpenSpec.ofChange fnSkipSpaceCutSpec)

/-- ITS FALSE NEIGHBOUR: 'it returns false'. Refute it at one input. -/
def fnSkipSpaceCutWrong : ChangeSpec := { name := "fnSkipSpaceCut", fn := fun _ => fun
  | [d1, d2, d3] => { results := [.lit (.bool false)], args := [d1, d2, d3] }
  | _ => none }
def FnSkipSpaceCutWrongFalsely : Prop := fnSkipSpaceCutRow.holds Try.pinned (OpenSpec.ofChange fnSkipSpaceCutWrong)

/-- 'zzlaws_internal_toml_b1.FnSkipSpaceShift': WHATEVER THE INPUT: true; the input reads as it did. -/
def fnSkipSpaceShiftSpec : ChangeSpec := { name := "fnSkipSpaceShift", fn := fun _ => fun
  | [d1, d2, d3] => { results := [.lit (.bool true)], args := [d1, d2, d3] }
  | _ => none }
def fnSkipSpaceShiftRow : OpenClaim := { program := "qxb6614930a", sum := "c97943d5b2367ba3e94171a56ee516ab72be2e89b4b6c93416aaaf1315bb3efb", func := "example.com/attenuation/attenuation/zzlaws_internal_toml_b1.FnSkipSpaceShift", spec := "fnSkipSpaceShift", apart := false }
def FnSkipSpaceShiftSaid : Prop := fnSkipSpaceShiftRow.holds Try.pinned (OpenSpec.ofChange fnSkipSpaceShiftSpec)

/-- ITS FALSE NEIGHBOUR: 'it returns false'. Refute it at one input. -/
def fnSkipSpaceShiftWrong : ChangeSpec := { name := "fnSkipSpaceShift", fn := fun _ => fun
  | [d1, d2, d3] => { results := [.lit (.bool false)], args := [d1, d2, d3] }
  | _ => none }
def FnSkipSpaceShiftWrongFalsely : Prop := fnSkipSpaceShiftRow.holds Try.pinned (OpenSpec.ofChange fnSkipSpaceShiftWrong)

/-- 'zzlaws_internal_toml_b1.FnWordCut': WHATEVER THE INPUT: true; the input reads as it did. -/
def fnWordCutSpec : ChangeSpec := { name := "fnWordCut", fn := fun _ => fun
  | [d1, d2, d3] => { results := [.lit (.bool true)], args := [d1, d2, d3] }
  | _ => none }
def fnWordCutRow : OpenClaim := { program := "qxb6614930a", sum := "c97943d5b2367ba3e94171a56ee516ab72be2e89b4b6c93416aaaf1315bb3efb", func := "example.com/attenuation/attenuation/zzlaws_internal_toml_b1.FnWordCut", spec := "fnWordCut", apart := false }
def FnWordCutSaid : Prop := fnWordCutRow.holds Try.pinned (OpenSpec.ofChange fnWordCutSpec)

/-- ITS FALSE NEIGHBOUR: 'it returns false'. Refute it at one input. -/
def fnWordCutWrong : ChangeSpec := { name := "fnWordCut", fn := fun _ => fun
  | [d1, d2, d3] => { results := [.lit (.bool false)], args := [d1, d2, d3] }
  | _ => none }
def FnWordCutWrongFalsely : Prop := fnWordCutRow.holds Try.pinned (OpenSpec.ofChange fnWordCutWrong)

/-- 'zzlaws_internal_toml_b1.FnWordRereadsItself': WHATEVER THE INPUT: true; the input reads as it did. -/
def fnWordRereadsItselfSpec : ChangeSpec := { name := "fnWordRereadsItself", fn := fun _ => fun
  | [d1, d2] => { results := [.lit (.bool true)], args := [d1, d2] }
  | _ => none }
def fnWordRereadsItselfRow : OpenClaim := { program := "qxb6614930a", sum := "c97943d5b2367ba3e94171a56ee516ab72be2e89b4b6c93416aaaf1315bb3efb", func := "example.com/attenuation/attenuation/zzlaws_internal_toml_b1.FnWordRereadsItself", spec := "fnWordRereadsItself", apart := false }
def FnWordRereadsItselfSaid : Prop := fnWordRereadsItselfRow.holds Try.pinned (OpenSpec.ofChange fnWordRereadsItselfSpec)

/-- ITS FALSE NEIGHBOUR: 'it returns false'. Refute it at one input. -/
def fnWordRereadsItselfWrong : ChangeSpec := { name := "fnWordRereadsItself", fn := fun _ => fun
  | [d1, d2] => { results := [.lit (.bool false)], args := [d1, d2] }
  | _ => none }
def FnWordRereadsItselfWrongFalsely : Prop := fnWordRereadsItselfRow.holds Try.pinned (OpenSpec.ofChange fnWordRereadsItselfWrong)

/-- 'zzlaws_internal_toml_b1.FnIsDatetimeExtension': WHATEVER THE INPUT: true; the input reads as it did. -/
def fnIsDatetimeExtensionSpec : ChangeSpec := { name := "fnIsDatetimeExtension", fn := fun _ => fun
  | [d1, d2] => { results := [.lit (.bool true)], args := [d1, d2] }
  | _ => none }
def fnIsDatetimeExtensionRow : OpenClaim := { program := "qxb6614930a", sum := "c97943d5b2367ba3e94171a56ee516ab72be2e89b4b6c93416aaaf1315bb3efb", func := "example.com/attenuation/attenuation/zzlaws_internal_toml_b1.FnIsDatetimeExtension", spec := "fnIsDatetimeExtension", apart := false }
def FnIsDatetimeExtensionSaid : Prop := fnIsDatetimeExtensionRow.holds Try.pinned (OpenSpec.ofChange fnIsDatetimeExtensionSpec)

/-- ITS FALSE NEIGHBOUR: 'it returns false'. Refute it at one input. -/
def fnIsDatetimeExtensionWrong : ChangeSpec := { name := "fnIsDatetimeExtension", fn := fun _ => fun
  | [d1, d2] => { results := [.lit (.bool false)], args := [d1, d2] }
  | _ => none }
def FnIsDatetimeExtensionWrongFalsely : Prop := fnIsDatetimeExtensionRow.holds Try.pinned (OpenSpec.ofChange fnIsDatetimeExtensionWrong)

/-- 'zzlaws_internal_toml_b1.FnIsDatetimeOfWord': WHATEVER THE INPUT: true; the input reads as it did. -/
def fnIsDatetimeOfWordSpec : ChangeSpec := { name := "fnIsDatetimeOfWord", fn := fun _ => fun
  | [d1, d2] => { results := [.lit (.bool true)], args := [d1, d2] }
  | _ => none }
def fnIsDatetimeOfWordRow : OpenClaim := { program := "qxb6614930a", sum := "c97943d5b2367ba3e94171a56ee516ab72be2e89b4b6c93416aaaf1315bb3efb", func := "example.com/attenuation/attenuation/zzlaws_internal_toml_b1.FnIsDatetimeOfWord", spec := "fnIsDatetimeOfWord", apart := false }
def FnIsDatetimeOfWordSaid : Prop := fnIsDatetimeOfWordRow.holds Try.pinned (OpenSpec.ofChange fnIsDatetimeOfWordSpec)

/-- ITS FALSE NEIGHBOUR: 'it returns false'. Refute it at one input. -/
def fnIsDatetimeOfWordWrong : ChangeSpec := { name := "fnIsDatetimeOfWord", fn := fun _ => fun
  | [d1, d2] => { results := [.lit (.bool false)], args := [d1, d2] }
  | _ => none }
def FnIsDatetimeOfWordWrongFalsely : Prop := fnIsDatetimeOfWordRow.holds Try.pinned (OpenSpec.ofChange fnIsDatetimeOfWordWrong)

end Rows
end Go.Proofs.Qxb6614930a
