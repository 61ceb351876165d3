import Derived.Test.Qxb6608853aJoin
import Derived.Test.Qxb6608853aJoinEdge
import Derived.Test.Qxb6608853aLift
namespace Go.Proofs.Qxb6608853a
open Go.ChangeShapes Go.WideShapes Go.ChangeAt Go.RowKit
open Go.ChangeMaps (open_string shut_string)
set_option linter.unusedVariables false
namespace fnFragmentsJoinAtAnyCut

theorem walk (a0 a1 : Option Addr) (len0 cap0 len1 cap1 : Nat) (cut : Int) (nm : Nat → ByteArray) (isf : Nat → Bool) (w : World) (h0 : len0 ≤ 9223372036854775807) (h1 : len1 ≤ 9223372036854775807)
    (hn : NamesAt w a0 len0 nm) (hf : BoolsAt w a1 len1 isf) :
    Calls Try.prog 3 #[.slice a0 len0 cap0, .slice a1 len1 cap1, .int .i64 cut] w fun e w' => e = .returned (.bool true) ∧ Below w.heap.size w w' := by
  by_cases ho : 65536 < len0 ∨ 65536 < len1 ∨ 1048576 < 16 * len0 + len1
  · exact join_edge a0 a1 len0 cap0 len1 cap1 cut nm w h0 h1 hn ho
  · exact join_in a0 a1 len0 cap0 len1 cap1 cut nm isf w (by omega) (by omega) (by omega) hn hf

set_option maxRecDepth 100000 in
theorem lifted (os : Os) (started : os.Started) (H : Type) (enc : TypeId × Value → H) :
    ReturnsInHanded {} Try.checked os 3 .any (Rows.fnFragmentsJoinAtAnyCutSpec.pre6 enc Try.prog Try.f3 Rows.fnFragmentsJoinAtAnyCutRow.domain false) (Rows.fnFragmentsJoinAtAnyCutSpec.post enc Try.prog Try.f3 false true false false) := by
  refine returnsInHanded_of_change (C := Try.checked) own started (by kernel_rfl) Try.func3
    (ChangeSpec.witness6 (enc := enc) (C := Try.checked) false ⟨#[], #[.slice none 0 0, .slice none 0 0, .int .i64 0], []⟩ 8 (by kernel_rfl) (by kernel_rfl) (by kernel_rfl) (by kernel_rfl)) ?_
  intro W base args ds gs before hval0 hW hcnd _
  have hval : ∀ (j : Nat) t v, Try.f3.params[j]? = some t → args[j]? = some v → Value.okWide Try.prog W .any base t v := hval0
  have hW' := hW
  obtain ⟨p, q, hA0, hV, rfl, hfz, hnd⟩ := hW
  have hA : DataW.TrodAll enc Try.prog W 0 (fun _ => true) true Try.f3.params.toList args.toList ds p := hA0
  rw [Try.params3] at hA hval
  obtain ⟨v0, vs0, d0, ds0, p0, q0, hargs, rfl, rfl, h0, r0⟩ := trodAll_cons hA
  obtain ⟨v1, vs1, d1, ds1, p1, q1, rfl, rfl, rfl, h1, r1⟩ := trodAll_cons r0
  obtain ⟨v2, vs2, d2, ds2, p2, q2, rfl, rfl, rfl, h2, r2⟩ := trodAll_cons r1
  obtain ⟨rfl, rfl, rfl⟩ := trodAll_nil r2
  obtain rfl : args = #[v0, v1, v2] := by cases args; simp_all
  obtain ⟨rfl, rfl⟩ := trodVars_none hV
  obtain ⟨a0, len0, cap0, rfl⟩ := okWide_slice Try.underlying22 (hval 0 22 v0 rfl rfl)
  obtain ⟨a1, len1, cap1, rfl⟩ := okWide_slice Try.underlying23 (hval 1 23 v1 rfl rfl)
  have k0 := h0
  have k1 := h1
  have lt0 : ∀ x ∈ p0, x.block < W.heap.size := by obtain ⟨m, hm⟩ := k0; exact DataW.trod_lt m _ _ _ hm
  have lt1 : ∀ x ∈ p1, x.block < W.heap.size := by obtain ⟨m, hm⟩ := k1; exact DataW.trod_lt m _ _ _ hm
  obtain ⟨nm, n0, n0'⟩ : ∃ nm, NamesAt W a0 len0 nm ∧ len0 ≤ 9223372036854775807 := by
    obtain ⟨fuel, hf⟩ := h0
    exact names_of hf
  obtain ⟨isf, n1, n1'⟩ : ∃ isf, BoolsAt W a1 len1 isf ∧ len1 ≤ 9223372036854775807 := by
    obtain ⟨fuel, hf⟩ := h1
    exact bools_of hf
  obtain ⟨k, rfl, rfl, rfl, w2⟩ := open_int Try.underlying3 (hval 2 3 v2 rfl rfl) h2
  clear hA0 hval0
  refine (walk a0 a1 len0 cap0 len1 cap1 k nm isf W n0' n1' n0 n1).mono fun e W' ⟨he, bel⟩ => ?_
  subst he
  exact ⟨_, rfl, _, _, _, [], _, [], hW', trodAll_mk1 (shut_bool Try.underlying4 _), (trodAll_cons_mk (Below.trod laidOut (by kernel_rfl) (of_decide_eq_true (by kernel_rfl)) k0 bel lt0) (trodAll_cons_mk (Below.trod laidOut (by kernel_rfl) (of_decide_eq_true (by kernel_rfl)) k1 bel lt1) (trodAll_cons_mk (shut_int Try.underlying3 w2) trodAll_mk0))), rfl, bel.frame _, fun h => by cases h⟩

theorem over : Rows.fnFragmentsJoinAtAnyCutRow.holds Try.pinned (OpenSpec.ofChange Rows.fnFragmentsJoinAtAnyCutSpec) :=
  OpenClaim.holds_of_wide 3 Try.f3 rfl rfl rfl rfl rfl rfl rfl ⟨rfl, rfl, rfl, rfl, rfl⟩ rfl rfl rfl rfl rfl (by kernel_rfl) Try.func3 (by kernel_rfl)
    (of_decide_eq_true (by kernel_rfl)) (by unfold Func.isWrapper; first | (rw [if_pos (by decide +kernel)]; kernel_rfl) | (rw [if_neg (by decide +kernel)]; exact ⟨rfl, rfl⟩))
    (fun os started H enc _ => lifted os started H enc)

/-- THE STATEMENT -/
theorem proved : Rows.FnFragmentsJoinAtAnyCutSaid := over
#print axioms proved
end fnFragmentsJoinAtAnyCut
end Go.Proofs.Qxb6608853a
