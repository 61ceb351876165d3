/-
  DERIVED. GIVEN WITH THE SEED: THE CARDS: each row of Qxb6608744aDoorRows.lean that lists a variable, with what it lists TIED to the program's text (the seventh form; the later family's looks); each row that meets fmt, with fmt's text TOLD by the authors' own Lean function (tested against real Go, not proved from fmt's source: count such statements apart). THE CARD IS WHAT COUNTS. Prove the row's statement (the work); the ties are given (Qxb6608744aDoorTie.lean); close each card by the builder's one call (the guide's Derived/Test/ToyasCard.lean, 'card_holds'). Laid BY PROGRAM, IN A SANDBOX (cutbox-door.mjs). By AI agents, Wed Nov 11 2026. No macro, syntax, notation, axiom, sorry.
-/
import Derived.Test.Qxb6608744aDoorRows
import GoSem.ClaimSeven
namespace Go.Proofs.Qxb6608744aDoor
namespace Rows

/-- THE TIED CARD OF 'zzlaws_root_b1.FnLaterNameIsLeastFreeRunOfMarks'. -/
def fnLaterNameIsLeastFreeRunOfMarksCard : Claim7 := { stood := { row := fnLaterNameIsLeastFreeRunOfMarksRow, standIns := [], harness := (true, "2966dcd89cf3ffefe05cd38229a7644bd02b669c6929b09e25858885c10a87bc"), looks := false }, kinds := [], alts := [], laidByText := true, laidKinds := [.data, .data, .data], laidTests := true, laidLooks := .later }
def FnLaterNameIsLeastFreeRunOfMarksCardSaid : Prop := Claim7.holds Tryd.pinned (.plain (OpenSpec.ofChange fnLaterNameIsLeastFreeRunOfMarksSpec)) fnLaterNameIsLeastFreeRunOfMarksCard

/-- THE TIED CARD OF 'zzlaws_root_b1.FnLaterNameDistinctNumbersDistinctNames'. -/
def fnLaterNameDistinctNumbersDistinctNamesCard : Claim7 := { stood := { row := fnLaterNameDistinctNumbersDistinctNamesRow, standIns := [], harness := (true, "2966dcd89cf3ffefe05cd38229a7644bd02b669c6929b09e25858885c10a87bc"), looks := false }, kinds := [], alts := [], laidByText := true, laidKinds := [.data, .data, .data], laidTests := true, laidLooks := .later }
def FnLaterNameDistinctNumbersDistinctNamesCardSaid : Prop := Claim7.holds Tryd.pinned (.plain (OpenSpec.ofChange fnLaterNameDistinctNumbersDistinctNamesSpec)) fnLaterNameDistinctNumbersDistinctNamesCard
end Rows
end Go.Proofs.Qxb6608744aDoor
