/-
  No cell of these rows narrows 'for every input' (looked for: loops, veiled, ifaces, maps, wideKeys, modest, calm, conditions, laid).
  DERIVED. THE GIVEN ROWS OF THIS SEAT. 2 by the template 'for every input the law returns true; each argument reads behind the call as it read before'; 0 by the template 'total and deterministic' (their statements: Qxb6604067aTotals.lean).
  GIVEN WITH THE SEED: the statements are not yours to turn. If you find one false, say at which input.
  Laid BY PROGRAM, IN A SANDBOX (cutbox-rows.mjs): the forced cells as the released guide's own fill.sh prints them over the translation cb4dbd86b24803df… (all of the seat's roots in one cut). By AI agents, Wed Nov 11 2026. No macro, syntax, notation, axiom, sorry.
-/
import Derived.Test.Qxb6604067aChecked
import GoSem.Claim
import GoSem.ClaimJoined
import GoSem.ClaimMapViews
import Derived.JoinedTies
import Derived.KernelRfl
namespace Go.Proofs.Qxb6604067a
/- THE CELL 'sum', in the pinned program and in every row, IS THE sha256 OF THE DUMP (.gsa) THAT Qxb6604067aProg.lean LOADS. Nothing in Lean hashes anything: it is a label: what it is worth is what the hold of that sum in a sandbox is worth. -/
noncomputable def Try.pinned : Pinned := { name := "qxb6604067a", sum := "cb4dbd86b24803df371487bfe96bff1e7bc43c36f2fc0dbf168350bab31ba3c3", checked := Try.checked }
namespace Rows
def none {H : Type} : Left H := { results := [], args := [] }

/-- 'zzlaws_internal_functions_b1.FnParseScanGroupMatchesFlagTable': WHATEVER THE INPUT: true; the input reads as it did. -/
def fnParseScanGroupMatchesFlagTableSpec : ChangeSpec := { name := "fnParseScanGroupMatchesFlagTable", fn := fun _ => fun
  | [d1, d2, d3, d4, d5, d6, d7, d8, d9, d10] => { results := [.lit (.bool true)], args := [d1, d2, d3, d4, d5, d6, d7, d8, d9, d10] }
  | _ => none }
def fnParseScanGroupMatchesFlagTableRow : OpenClaim := { program := "qxb6604067a", sum := "cb4dbd86b24803df371487bfe96bff1e7bc43c36f2fc0dbf168350bab31ba3c3", func := "example.com/puffer/puffer/zzlaws_internal_functions_b1.FnParseScanGroupMatchesFlagTable", spec := "fnParseScanGroupMatchesFlagTable", apart := false }
def FnParseScanGroupMatchesFlagTableSaid : Prop := fnParseScanGroupMatchesFlagTableRow.holds Try.pinned (OpenSpec.ofChange fnParseScanGroupMatchesFlagTableSpec)

/-- ITS FALSE NEIGHBOUR: 'it returns false'. Refute it at one input. -/
def fnParseScanGroupMatchesFlagTableWrong : ChangeSpec := { name := "fnParseScanGroupMatchesFlagTable", fn := fun _ => fun
  | [d1, d2, d3, d4, d5, d6, d7, d8, d9, d10] => { results := [.lit (.bool false)], args := [d1, d2, d3, d4, d5, d6, d7, d8, d9, d10] }
  | _ => none }
def FnParseScanGroupMatchesFlagTableWrongFalsely : Prop := fnParseScanGroupMatchesFlagTableRow.holds Try.pinned (OpenSpec.ofChange fnParseScanGroupMatchesFlagTableWrong)

/-- 'zzlaws_internal_functions_b1.FnWriteReplacementMatchesExpansionModel': WHATEVER THE INPUT: true; the input reads as it did. -/
def fnWriteReplacementMatchesExpansionModelSpec : ChangeSpec := { name := "fnWriteReplacementMatchesExpansionModel", fn := fun _ => fun
  | [d1, d2, d3, d4, d5, d6, d7, d8] => { results := [.lit (.bool true)], args := [d1, d2, d3, d4, d5, d6, d7, d8] }
  | _ => none }
def fnWriteReplacementMatchesExpansionModelRow : OpenClaim := { program := "qxb6604067a", sum := "cb4dbd86b24803df371487bfe96bff1e7bc43c36f2fc0dbf168350bab31ba3c3", func := "example.com/puffer/puffer/zzlaws_internal_functions_b1.FnWriteReplacementMatchesExpansionModel", spec := "fnWriteReplacementMatchesExpansionModel", inPlace := ["internal/abi.NoEscape", "internal/bytealg.IndexByteString"], apart := false }
def FnWriteReplacementMatchesExpansionModelSaid : Prop := fnWriteReplacementMatchesExpansionModelRow.holds Try.pinned (OpenSpec.ofChange fnWriteReplacementMatchesExpansionModelSpec)

/-- ITS FALSE NEIGHBOUR: 'it returns false'. Refute it at one input. -/
def fnWriteReplacementMatchesExpansionModelWrong : ChangeSpec := { name := "fnWriteReplacementMatchesExpansionModel", fn := fun _ => fun
  | [d1, d2, d3, d4, d5, d6, d7, d8] => { results := [.lit (.bool false)], args := [d1, d2, d3, d4, d5, d6, d7, d8] }
  | _ => none }
def FnWriteReplacementMatchesExpansionModelWrongFalsely : Prop := fnWriteReplacementMatchesExpansionModelRow.holds Try.pinned (OpenSpec.ofChange fnWriteReplacementMatchesExpansionModelWrong)

end Rows
end Go.Proofs.Qxb6604067a
