/-
  No cell of these rows narrows 'for every input' (looked for: loops, veiled, ifaces, maps, wideKeys, modest, calm, conditions, laid).
  DERIVED. THE GIVEN ROWS OF THIS SEAT. 1 by the template 'for every input the law returns true; each argument reads behind the call as it read before'; 0 by the template 'total and deterministic' (their statements: Qxb6608843aTotals.lean).
  GIVEN WITH THE SEED: the statements are not yours to turn. If you find one false, say at which input.
  Laid BY PROGRAM, IN A SANDBOX (cutbox-rows.mjs): the forced cells as the released guide's own fill.sh prints them over the translation cb258be40d3ab921… (all of the seat's roots in one cut). By AI agents, Wed Nov 11 2026. No macro, syntax, notation, axiom, sorry.
-/
import Derived.Test.Qxb6608843aChecked
import GoSem.Claim
import GoSem.ClaimJoined
import GoSem.ClaimMapViews
import Derived.JoinedTies
import Derived.KernelRfl
namespace Go.Proofs.Qxb6608843a
/- THE CELL 'sum', in the pinned program and in every row, IS THE sha256 OF THE DUMP (.gsa) THAT Qxb6608843aProg.lean LOADS. Nothing in Lean hashes anything: it is a label: what it is worth is what the hold of that sum in a sandbox is worth. -/
noncomputable def Try.pinned : Pinned := { name := "qxb6608843a", sum := "cb258be40d3ab921e6d58a2970b5745cdc509f1a76226c579f556ad071a25700", checked := Try.checked }
namespace Rows
def none {H : Type} : Left H := { results := [], args := [] }

/-- 'zzlaws_root_b1.FnProgramSizeSubtreesAdd': WHATEVER THE INPUT: true; the input reads as it did. -/
def fnProgramSizeSubtreesAddSpec : ChangeSpec := { name := "fnProgramSizeSubtreesAdd", fn := fun _ => fun
  | [d1, d2, d3, d4, d5, d6, d7, d8, d9, d10, d11, d12] => { results := [.lit (.bool true)], args := [d1, d2, d3, d4, d5, d6, d7, d8, d9, d10, d11, d12] }
  | _ => none }
def fnProgramSizeSubtreesAddRow : OpenClaim := { program := "qxb6608843a", sum := "cb258be40d3ab921e6d58a2970b5745cdc509f1a76226c579f556ad071a25700", func := "example.com/rafterloom/rafterloom/zzlaws_root_b1.FnProgramSizeSubtreesAdd", spec := "fnProgramSizeSubtreesAdd", recurses := true, apart := false }
def FnProgramSizeSubtreesAddSaid : Prop := fnProgramSizeSubtreesAddRow.holds Try.pinned (OpenSpec.ofChange fnProgramSizeSubtreesAddSpec)

/-- ITS FALSE NEIGHBOUR: 'it returns false'. Refute it at one input. -/
def fnProgramSizeSubtreesAddWrong : ChangeSpec := { name := "fnProgramSizeSubtreesAdd", fn := fun _ => fun
  | [d1, d2, d3, d4, d5, d6, d7, d8, d9, d10, d11, d12] => { results := [.lit (.bool false)], args := [d1, d2, d3, d4, d5, d6, d7, d8, d9, d10, d11, d12] }
  | _ => none }
def FnProgramSizeSubtreesAddWrongFalsely : Prop := fnProgramSizeSubtreesAddRow.holds Try.pinned (OpenSpec.ofChange fnProgramSizeSubtreesAddWrong)

end Rows
end Go.Proofs.Qxb6608843a
