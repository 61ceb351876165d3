/-
  No cell of these rows narrows 'for every input' (looked for: loops, veiled, ifaces, maps, wideKeys, modest, calm, conditions, laid).
  DERIVED. THE GIVEN ROWS OF THIS SEAT. 2 by the template 'for every input the law returns true; each argument reads behind the call as it read before'; 0 by the template 'total and deterministic' (their statements: Qxb6608760aTotals.lean).
  GIVEN WITH THE SEED: the statements are not yours to turn. If you find one false, say at which input.
  Laid BY PROGRAM, IN A SANDBOX (cutbox-rows.mjs): the forced cells as the released guide's own fill.sh prints them over the translation 825dbf3491e20d30… (all of the seat's roots in one cut). By AI agents, Wed Nov 11 2026. No macro, syntax, notation, axiom, sorry.
-/
import Derived.Test.Qxb6608760aChecked
import GoSem.Claim
import GoSem.ClaimJoined
import GoSem.ClaimMapViews
import Derived.JoinedTies
import Derived.KernelRfl
namespace Go.Proofs.Qxb6608760a
/- THE CELL 'sum', in the pinned program and in every row, IS THE sha256 OF THE DUMP (.gsa) THAT Qxb6608760aProg.lean LOADS. Nothing in Lean hashes anything: it is a label: what it is worth is what the hold of that sum in a sandbox is worth. -/
noncomputable def Try.pinned : Pinned := { name := "qxb6608760a", sum := "825dbf3491e20d3054e9ddd8d3813c90900180efcf18b649f9306eb2e16809b8", checked := Try.checked }
namespace Rows
def none {H : Type} : Left H := { results := [], args := [] }

/-- 'zzlaws_internal_http1_b1.FnLowerClasses': WHATEVER THE INPUT: true; the input reads as it did. -/
def fnLowerClassesSpec : ChangeSpec := { name := "fnLowerClasses", fn := fun _ => fun
  | [d] => { results := [.lit (.bool true)], args := [d] }
  | _ => none }
def fnLowerClassesRow : OpenClaim := { program := "qxb6608760a", sum := "825dbf3491e20d3054e9ddd8d3813c90900180efcf18b649f9306eb2e16809b8", func := "example.com/hatchway/hatchway/zzlaws_internal_http1_b1.FnLowerClasses", spec := "fnLowerClasses", apart := false }
def FnLowerClassesSaid : Prop := fnLowerClassesRow.holds Try.pinned (OpenSpec.ofChange fnLowerClassesSpec)

/-- ITS FALSE NEIGHBOUR: 'it returns false'. Refute it at one input. -/
def fnLowerClassesWrong : ChangeSpec := { name := "fnLowerClasses", fn := fun _ => fun
  | [d] => { results := [.lit (.bool false)], args := [d] }
  | _ => none }
def FnLowerClassesWrongFalsely : Prop := fnLowerClassesRow.holds Try.pinned (OpenSpec.ofChange fnLowerClassesWrong)

/-- 'zzlaws_internal_http1_b1.FnLowerFoldAgrees': WHATEVER THE INPUT: true; the input reads as it did. -/
def fnLowerFoldAgreesSpec : ChangeSpec := { name := "fnLowerFoldAgrees", fn := fun _ => fun
  | [d1, d2] => { results := [.lit (.bool true)], args := [d1, d2] }
  | _ => none }
def fnLowerFoldAgreesRow : OpenClaim := { program := "qxb6608760a", sum := "825dbf3491e20d3054e9ddd8d3813c90900180efcf18b649f9306eb2e16809b8", func := "example.com/hatchway/hatchway/zzlaws_internal_http1_b1.FnLowerFoldAgrees", spec := "fnLowerFoldAgrees", apart := false }
def FnLowerFoldAgreesSaid : Prop := fnLowerFoldAgreesRow.holds Try.pinned (OpenSpec.ofChange fnLowerFoldAgreesSpec)

/-- ITS FALSE NEIGHBOUR: 'it returns false'. Refute it at one input. -/
def fnLowerFoldAgreesWrong : ChangeSpec := { name := "fnLowerFoldAgrees", fn := fun _ => fun
  | [d1, d2] => { results := [.lit (.bool false)], args := [d1, d2] }
  | _ => none }
def FnLowerFoldAgreesWrongFalsely : Prop := fnLowerFoldAgreesRow.holds Try.pinned (OpenSpec.ofChange fnLowerFoldAgreesWrong)

end Rows
end Go.Proofs.Qxb6608760a
