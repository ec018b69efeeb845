/-
  No cell of these rows narrows 'for every input' (looked for: loops, veiled, ifaces, maps, wideKeys, modest, calm, conditions, laid).
  DERIVED. THE GIVEN ROWS OF THIS SEAT. 1 by the template 'for every input the law returns true; each argument reads behind the call as it read before'; 0 by the template 'total and deterministic' (their statements: Qxb6605164aTotals.lean).
  GIVEN WITH THE SEED: the statements are not yours to turn. If you find one false, say at which input.
  Laid BY PROGRAM, IN A SANDBOX (cutbox-rows.mjs): the forced cells as the released guide's own fill.sh prints them over the translation 00fab87188902c36… (all of the seat's roots in one cut). By AI agents, Wed Nov 11 2026. No macro, syntax, notation, axiom, sorry.
-/
import Derived.Test.Qxb6605164aChecked
import GoSem.Claim
import GoSem.ClaimJoined
import GoSem.ClaimMapViews
import Derived.JoinedTies
import Derived.KernelRfl
namespace Go.Proofs.Qxb6605164a
/- THE CELL 'sum', in the pinned program and in every row, IS THE sha256 OF THE DUMP (.gsa) THAT Qxb6605164aProg.lean LOADS. Nothing in Lean hashes anything: it is a label: what it is worth is what the hold of that sum in a sandbox is worth. -/
noncomputable def Try.pinned : Pinned := { name := "qxb6605164a", sum := "00fab87188902c362b549db43442a7b6e82cf2eddb7d79a220ecd72dfc7d01c0", checked := Try.checked }
namespace Rows
def none {H : Type} : Left H := { results := [], args := [] }

/-- 'zzlaws_root_b1.FnIsIdentifierMatchesNameGrammar': WHATEVER THE INPUT: true; the input reads as it did. -/
def fnIsIdentifierMatchesNameGrammarSpec : ChangeSpec := { name := "fnIsIdentifierMatchesNameGrammar", fn := fun _ => fun
  | [d] => { results := [.lit (.bool true)], args := [d] }
  | _ => none }
def fnIsIdentifierMatchesNameGrammarRow : OpenClaim := { program := "qxb6605164a", sum := "00fab87188902c362b549db43442a7b6e82cf2eddb7d79a220ecd72dfc7d01c0", func := "example.com/sieveline/sieveline/zzlaws_root_b1.FnIsIdentifierMatchesNameGrammar", spec := "fnIsIdentifierMatchesNameGrammar", apart := false }
def FnIsIdentifierMatchesNameGrammarSaid : Prop := fnIsIdentifierMatchesNameGrammarRow.holds Try.pinned (OpenSpec.ofChange fnIsIdentifierMatchesNameGrammarSpec)

/-- ITS FALSE NEIGHBOUR: 'it returns false'. Refute it at one input. -/
def fnIsIdentifierMatchesNameGrammarWrong : ChangeSpec := { name := "fnIsIdentifierMatchesNameGrammar", fn := fun _ => fun
  | [d] => { results := [.lit (.bool false)], args := [d] }
  | _ => none }
def FnIsIdentifierMatchesNameGrammarWrongFalsely : Prop := fnIsIdentifierMatchesNameGrammarRow.holds Try.pinned (OpenSpec.ofChange fnIsIdentifierMatchesNameGrammarWrong)

end Rows
end Go.Proofs.Qxb6605164a
