/-
  No cell of these rows narrows 'for every input' (looked for: loops, veiled, ifaces, maps, wideKeys, modest, calm, conditions, laid).
  DERIVED. THE GIVEN ROWS OF THIS SEAT. 2 by the template 'for every input the law returns true; each argument reads behind the call as it read before'; 0 by the template 'total and deterministic' (their statements: Qxb6604120aTotals.lean).
  GIVEN WITH THE SEED: the statements are not yours to turn. If you find one false, say at which input.
  Laid BY PROGRAM, IN A SANDBOX (cutbox-rows.mjs): the forced cells as the released guide's own fill.sh prints them over the translation 57bb9e19ede3b0dd… (all of the seat's roots in one cut). By AI agents, Wed Nov 11 2026. No macro, syntax, notation, axiom, sorry.
-/
import Derived.Test.Qxb6604120aChecked
import GoSem.Claim
import GoSem.ClaimJoined
import GoSem.ClaimMapViews
import Derived.JoinedTies
import Derived.KernelRfl
namespace Go.Proofs.Qxb6604120a
/- THE CELL 'sum', in the pinned program and in every row, IS THE sha256 OF THE DUMP (.gsa) THAT Qxb6604120aProg.lean LOADS. Nothing in Lean hashes anything: it is a label: what it is worth is what the hold of that sum in a sandbox is worth. -/
noncomputable def Try.pinned : Pinned := { name := "qxb6604120a", sum := "57bb9e19ede3b0dde55577a836e27e65c927ac9ba25fe3d81f826d09578b9d24", checked := Try.checked }
namespace Rows
def none {H : Type} : Left H := { results := [], args := [] }

/-- 'zzlaws_internal_ledger_b1.FnActionGivenSplitsByField': WHATEVER THE INPUT: true; the input reads as it did. -/
def fnActionGivenSplitsByFieldSpec : ChangeSpec := { name := "fnActionGivenSplitsByField", fn := fun _ => fun
  | [d1, d2, d3, d4, d5, d6, d7] => { results := [.lit (.bool true)], args := [d1, d2, d3, d4, d5, d6, d7] }
  | _ => none }
def fnActionGivenSplitsByFieldRow : OpenClaim := { program := "qxb6604120a", sum := "57bb9e19ede3b0dde55577a836e27e65c927ac9ba25fe3d81f826d09578b9d24", func := "example.com/vestledger/vestledger/zzlaws_internal_ledger_b1.FnActionGivenSplitsByField", spec := "fnActionGivenSplitsByField", apart := false }
def FnActionGivenSplitsByFieldSaid : Prop := fnActionGivenSplitsByFieldRow.holds Try.pinned (OpenSpec.ofChange fnActionGivenSplitsByFieldSpec)

/-- ITS FALSE NEIGHBOUR: 'it returns false'. Refute it at one input. -/
def fnActionGivenSplitsByFieldWrong : ChangeSpec := { name := "fnActionGivenSplitsByField", fn := fun _ => fun
  | [d1, d2, d3, d4, d5, d6, d7] => { results := [.lit (.bool false)], args := [d1, d2, d3, d4, d5, d6, d7] }
  | _ => none }
def FnActionGivenSplitsByFieldWrongFalsely : Prop := fnActionGivenSplitsByFieldRow.holds Try.pinned (OpenSpec.ofChange fnActionGivenSplitsByFieldWrong)

/-- 'zzlaws_internal_ledger_b1.FnStartScanStrModel': WHATEVER THE INPUT: true; the input reads as it did. -/
def fnStartScanStrModelSpec : ChangeSpec := { name := "fnStartScanStrModel", fn := fun _ => fun
  | [d1, d2] => { results := [.lit (.bool true)], args := [d1, d2] }
  | _ => none }
def fnStartScanStrModelRow : OpenClaim := { program := "qxb6604120a", sum := "57bb9e19ede3b0dde55577a836e27e65c927ac9ba25fe3d81f826d09578b9d24", func := "example.com/vestledger/vestledger/zzlaws_internal_ledger_b1.FnStartScanStrModel", spec := "fnStartScanStrModel", apart := false }
def FnStartScanStrModelSaid : Prop := fnStartScanStrModelRow.holds Try.pinned (OpenSpec.ofChange fnStartScanStrModelSpec)

/-- ITS FALSE NEIGHBOUR: 'it returns false'. Refute it at one input. -/
def fnStartScanStrModelWrong : ChangeSpec := { name := "fnStartScanStrModel", fn := fun _ => fun
  | [d1, d2] => { results := [.lit (.bool false)], args := [d1, d2] }
  | _ => none }
def FnStartScanStrModelWrongFalsely : Prop := fnStartScanStrModelRow.holds Try.pinned (OpenSpec.ofChange fnStartScanStrModelWrong)

end Rows
end Go.Proofs.Qxb6604120a
