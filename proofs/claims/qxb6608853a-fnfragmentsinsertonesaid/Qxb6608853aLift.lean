import Derived.Test.Qxb6608853aBytes
import Derived.ProofKit
import Derived.OpenShut
import Derived.ShutString
import Derived.ChangeOld
import Derived.Below
import Derived.SliceStrings
import Derived.Deep.Grids
namespace Go.Proofs.Qxb6608853a
open Go.ChangeShapes Go.WideShapes Go.ChangeAt Go.RowKit Go.Deep
set_option linter.unusedVariables false

theorem own : ownKnob Try.prog.godebug = none := by kernel_rfl
theorem laidOut : laidOutB Try.prog = true := by kernel_rfl

theorem addr_add (b o j : Nat) : (⟨b, o, none⟩ : Addr).add j = ⟨b, o + j, none⟩ := by
  unfold Addr.add; split <;> simp_all

/-- The slice of names that came in. -/
theorem names_of {H : Type} {enc : TypeId × Value → H} {w : World} {a : Option Addr} {len cap fuel : Nat} {x : DataW H × List MemPlace}
    (h : DataW.trod enc Try.prog w 0 (fun _ => true) true fuel 22 [.slice a len cap] = some x) : ∃ nm, NamesAt w a len nm ∧ len ≤ 9223372036854775807 := by
  rcases open_strings Try.underlying22 Try.underlying9 (by kernel_rfl) h with ⟨hcs, _⟩ | ⟨y, l, c, zs, hcs, _, hl, hm, hz, _, hcell, hwz⟩
  · simp only [List.cons.injEq, Value.slice.injEq, and_true] at hcs
    obtain ⟨rfl, rfl, rfl⟩ := hcs
    exact ⟨fun _ => ByteArray.empty, fun t ht => by omega, by omega⟩
  · simp only [List.cons.injEq, Value.slice.injEq, and_true] at hcs
    obtain ⟨rfl, rfl, rfl⟩ := hcs
    have hz' : zs.length = cap := by simpa using hz
    unfold maxLen at hm hwz
    refine ⟨fun t => zs.getD t ByteArray.empty, fun t ht => ?_, by omega⟩
    obtain ⟨b, o, sp⟩ := y
    have hsp : sp = none := by simpa [Addr.add] using World.cell?_spot (hcell 0 (by omega))
    subst hsp
    refine ⟨⟨b, o, rfl, ?_⟩, ?_⟩
    · have := hcell t (by omega)
      rwa [addr_add] at this
    · have e : zs.getD t ByteArray.empty = zs[t]'(by omega) := by simp [List.getD_eq_getElem?_getD, List.getElem?_eq_getElem (show t < zs.length by omega)]
      show (zs.getD t ByteArray.empty).size ≤ _
      rw [e]
      exact hwz _ (List.getElem_mem _)

/-- The slice of bools that came in. -/
theorem bools_of {H : Type} {enc : TypeId × Value → H} {w : World} {a : Option Addr} {len cap fuel : Nat} {x : DataW H × List MemPlace}
    (h : DataW.trod enc Try.prog w 0 (fun _ => true) true fuel 23 [.slice a len cap] = some x) : ∃ isf, BoolsAt w a len isf ∧ len ≤ 9223372036854775807 := by
  rcases open_bools Try.underlying23 Try.underlying4 (by kernel_rfl) h with ⟨hcs, _⟩ | ⟨y, l, c, B, hcs, _, hl, hm, _, hcell⟩
  · simp only [List.cons.injEq, Value.slice.injEq, and_true] at hcs
    obtain ⟨rfl, rfl, rfl⟩ := hcs
    exact ⟨fun _ => false, fun t ht => by omega, by omega⟩
  · simp only [List.cons.injEq, Value.slice.injEq, and_true] at hcs
    obtain ⟨rfl, rfl, rfl⟩ := hcs
    unfold maxLen at hm
    refine ⟨B, fun t ht => ?_, by omega⟩
    obtain ⟨b, o, sp⟩ := y
    have hsp : sp = none := by simpa [Addr.add] using World.cell?_spot (hcell 0 (by omega))
    subst hsp
    refine ⟨b, o, rfl, ?_⟩
    have := hcell t (by omega)
    rwa [addr_add] at this

end Go.Proofs.Qxb6608853a
