/-
  No cell of these rows narrows 'for every input' (looked for: loops, veiled, ifaces, maps, wideKeys, modest, calm, conditions, laid).
  DERIVED. THE GIVEN ROWS OF THIS SEAT. 1 by the template 'for every input the law returns true; each argument reads behind the call as it read before'; 0 by the template 'total and deterministic' (their statements: Qxb6604995aTotals.lean).
  GIVEN WITH THE SEED: the statements are not yours to turn. If you find one false, say at which input.
  Laid BY PROGRAM, IN A SANDBOX (cutbox-rows.mjs): the forced cells as the released guide's own fill.sh prints them over the translation e1432ae9eff1bbf8… (all of the seat's roots in one cut). By AI agents, Wed Nov 11 2026. No macro, syntax, notation, axiom, sorry.
-/
import Derived.Test.Qxb6604995aChecked
import GoSem.Claim
import GoSem.ClaimJoined
import GoSem.ClaimMapViews
import Derived.JoinedTies
import Derived.KernelRfl
namespace Go.Proofs.Qxb6604995a
/- THE CELL 'sum', in the pinned program and in every row, IS THE sha256 OF THE DUMP (.gsa) THAT Qxb6604995aProg.lean LOADS. Nothing in Lean hashes anything: it is a label: what it is worth is what the hold of that sum in a sandbox is worth. -/
noncomputable def Try.pinned : Pinned := { name := "qxb6604995a", sum := "e1432ae9eff1bbf829d6121b2a63fc10737de1817e127a7b8a1cdaf30e327cc2", checked := Try.checked }
namespace Rows
def none {H : Type} : Left H := { results := [], args := [] }

/-- 'zzlaws_internal_types_b1.FnKeyDoublesEqualAsSQL': WHATEVER THE INPUT: true; the input reads as it did. -/
def fnKeyDoublesEqualAsSQLSpec : ChangeSpec := { name := "fnKeyDoublesEqualAsSQL", fn := fun _ => fun
  | [d1, d2] => { results := [.lit (.bool true)], args := [d1, d2] }
  | _ => none }
def fnKeyDoublesEqualAsSQLRow : OpenClaim := { program := "qxb6604995a", sum := "e1432ae9eff1bbf829d6121b2a63fc10737de1817e127a7b8a1cdaf30e327cc2", func := "example.com/firstwin/firstwin/zzlaws_internal_types_b1.FnKeyDoublesEqualAsSQL", spec := "fnKeyDoublesEqualAsSQL", apart := false }
def FnKeyDoublesEqualAsSQLSaid : Prop := fnKeyDoublesEqualAsSQLRow.holds Try.pinned (OpenSpec.ofChange fnKeyDoublesEqualAsSQLSpec)

/-- ITS FALSE NEIGHBOUR: 'it returns false'. Refute it at one input. -/
def fnKeyDoublesEqualAsSQLWrong : ChangeSpec := { name := "fnKeyDoublesEqualAsSQL", fn := fun _ => fun
  | [d1, d2] => { results := [.lit (.bool false)], args := [d1, d2] }
  | _ => none }
def FnKeyDoublesEqualAsSQLWrongFalsely : Prop := fnKeyDoublesEqualAsSQLRow.holds Try.pinned (OpenSpec.ofChange fnKeyDoublesEqualAsSQLWrong)

end Rows
end Go.Proofs.Qxb6604995a
