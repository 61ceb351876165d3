/-
  No cell of these rows narrows 'for every input' (looked for: loops, veiled, ifaces, maps, wideKeys, modest, calm, conditions, laid).
  DERIVED. THE GIVEN ROWS OF THIS SEAT. 2 by the template 'for every input the law returns true; each argument reads behind the call as it read before'; 0 by the template 'total and deterministic' (their statements: Qxb6608853aTotals.lean).
  GIVEN WITH THE SEED: the statements are not yours to turn. If you find one false, say at which input.
  Laid BY PROGRAM, IN A SANDBOX (cutbox-rows.mjs): the forced cells as the released guide's own fill.sh prints them over the translation 23d7ccbffb06e902… (all of the seat's roots in one cut). By AI agents, Wed Nov 11 2026. No macro, syntax, notation, axiom, sorry.
-/
import Derived.Test.Qxb6608853aChecked
import GoSem.Claim
import GoSem.ClaimJoined
import GoSem.ClaimMapViews
import Derived.JoinedTies
import Derived.KernelRfl
namespace Go.Proofs.Qxb6608853a
/- THE CELL 'sum', in the pinned program and in every row, IS THE sha256 OF THE DUMP (.gsa) THAT Qxb6608853aProg.lean LOADS. Nothing in Lean hashes anything: it is a label: what it is worth is what the hold of that sum in a sandbox is worth. -/
noncomputable def Try.pinned : Pinned := { name := "qxb6608853a", sum := "23d7ccbffb06e902667c6b266f7660f812a2528ebba54a0693e2678dcb3ad4ea", checked := Try.checked }
namespace Rows
def none {H : Type} : Left H := { results := [], args := [] }

/-- 'zzlaws_internal_syntax_b1.FnFragmentsJoinAtAnyCut': WHATEVER THE INPUT: true; the input reads as it did. -/
def fnFragmentsJoinAtAnyCutSpec : ChangeSpec := { name := "fnFragmentsJoinAtAnyCut", fn := fun _ => fun
  | [d1, d2, d3] => { results := [.lit (.bool true)], args := [d1, d2, d3] }
  | _ => none }
def fnFragmentsJoinAtAnyCutRow : OpenClaim := { program := "qxb6608853a", sum := "23d7ccbffb06e902667c6b266f7660f812a2528ebba54a0693e2678dcb3ad4ea", func := "example.com/resolvent/resolvent/zzlaws_internal_syntax_b1.FnFragmentsJoinAtAnyCut", spec := "fnFragmentsJoinAtAnyCut", apart := false }
def FnFragmentsJoinAtAnyCutSaid : Prop := fnFragmentsJoinAtAnyCutRow.holds Try.pinned (OpenSpec.ofChange fnFragmentsJoinAtAnyCutSpec)

/-- ITS FALSE NEIGHBOUR: 'it returns false'. Refute it at one input. -/
def fnFragmentsJoinAtAnyCutWrong : ChangeSpec := { name := "fnFragmentsJoinAtAnyCut", fn := fun _ => fun
  | [d1, d2, d3] => { results := [.lit (.bool false)], args := [d1, d2, d3] }
  | _ => none }
def FnFragmentsJoinAtAnyCutWrongFalsely : Prop := fnFragmentsJoinAtAnyCutRow.holds Try.pinned (OpenSpec.ofChange fnFragmentsJoinAtAnyCutWrong)

/-- 'zzlaws_internal_syntax_b1.FnFragmentsInsertOne': WHATEVER THE INPUT: true; the input reads as it did. -/
def fnFragmentsInsertOneSpec : ChangeSpec := { name := "fnFragmentsInsertOne", fn := fun _ => fun
  | [d1, d2, d3, d4] => { results := [.lit (.bool true)], args := [d1, d2, d3, d4] }
  | _ => none }
def fnFragmentsInsertOneRow : OpenClaim := { program := "qxb6608853a", sum := "23d7ccbffb06e902667c6b266f7660f812a2528ebba54a0693e2678dcb3ad4ea", func := "example.com/resolvent/resolvent/zzlaws_internal_syntax_b1.FnFragmentsInsertOne", spec := "fnFragmentsInsertOne", apart := false }
def FnFragmentsInsertOneSaid : Prop := fnFragmentsInsertOneRow.holds Try.pinned (OpenSpec.ofChange fnFragmentsInsertOneSpec)

/-- ITS FALSE NEIGHBOUR: 'it returns false'. Refute it at one input. -/
def fnFragmentsInsertOneWrong : ChangeSpec := { name := "fnFragmentsInsertOne", fn := fun _ => fun
  | [d1, d2, d3, d4] => { results := [.lit (.bool false)], args := [d1, d2, d3, d4] }
  | _ => none }
def FnFragmentsInsertOneWrongFalsely : Prop := fnFragmentsInsertOneRow.holds Try.pinned (OpenSpec.ofChange fnFragmentsInsertOneWrong)

end Rows
end Go.Proofs.Qxb6608853a
