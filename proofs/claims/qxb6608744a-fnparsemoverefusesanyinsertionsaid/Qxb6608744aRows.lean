/-
  No cell of these rows narrows 'for every input' (looked for: loops, veiled, ifaces, maps, wideKeys, modest, calm, conditions, laid).
  DERIVED. THE GIVEN ROWS OF THIS SEAT. 1 by the template 'for every input the law returns true; each argument reads behind the call as it read before'; 0 by the template 'total and deterministic' (their statements: Qxb6608744aTotals.lean).
  GIVEN WITH THE SEED: the statements are not yours to turn. If you find one false, say at which input.
  Laid BY PROGRAM, IN A SANDBOX (cutbox-rows.mjs): the forced cells as the released guide's own fill.sh prints them over the translation b6eb6b83d14a1e04… (all of the seat's roots in one cut). By AI agents, Wed Nov 11 2026. No macro, syntax, notation, axiom, sorry.
-/
import Derived.Test.Qxb6608744aChecked
import GoSem.Claim
import GoSem.ClaimJoined
import GoSem.ClaimMapViews
import Derived.JoinedTies
import Derived.KernelRfl
namespace Go.Proofs.Qxb6608744a
/- THE CELL 'sum', in the pinned program and in every row, IS THE sha256 OF THE DUMP (.gsa) THAT Qxb6608744aProg.lean LOADS. Nothing in Lean hashes anything: it is a label: what it is worth is what the hold of that sum in a sandbox is worth. -/
noncomputable def Try.pinned : Pinned := { name := "qxb6608744a", sum := "b6eb6b83d14a1e0492e2eb130b117355671ee03c42f95fc2c4d5935ce7f4fb59", checked := Try.checked }
namespace Rows
def none {H : Type} : Left H := { results := [], args := [] }

/-- 'zzlaws_root_b1.FnParseMoveRefusesAnyInsertion': WHATEVER THE INPUT: true; the input reads as it did. -/
def fnParseMoveRefusesAnyInsertionSpec : ChangeSpec := { name := "fnParseMoveRefusesAnyInsertion", fn := fun _ => fun
  | [d1, d2, d3, d4, d5, d6, d7] => { results := [.lit (.bool true)], args := [d1, d2, d3, d4, d5, d6, d7] }
  | _ => none }
def fnParseMoveRefusesAnyInsertionRow : OpenClaim := { program := "qxb6608744a", sum := "b6eb6b83d14a1e0492e2eb130b117355671ee03c42f95fc2c4d5935ce7f4fb59", func := "example.com/granulock/granulock/zzlaws_root_b1.FnParseMoveRefusesAnyInsertion", spec := "fnParseMoveRefusesAnyInsertion", apart := false }
def FnParseMoveRefusesAnyInsertionSaid : Prop := fnParseMoveRefusesAnyInsertionRow.holds Try.pinned (OpenSpec.ofChange fnParseMoveRefusesAnyInsertionSpec)

/-- ITS FALSE NEIGHBOUR: 'it returns false'. Refute it at one input. -/
def fnParseMoveRefusesAnyInsertionWrong : ChangeSpec := { name := "fnParseMoveRefusesAnyInsertion", fn := fun _ => fun
  | [d1, d2, d3, d4, d5, d6, d7] => { results := [.lit (.bool false)], args := [d1, d2, d3, d4, d5, d6, d7] }
  | _ => none }
def FnParseMoveRefusesAnyInsertionWrongFalsely : Prop := fnParseMoveRefusesAnyInsertionRow.holds Try.pinned (OpenSpec.ofChange fnParseMoveRefusesAnyInsertionWrong)

end Rows
end Go.Proofs.Qxb6608744a
