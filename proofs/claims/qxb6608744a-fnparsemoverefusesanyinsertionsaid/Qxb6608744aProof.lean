import Derived.Test.Qxb6608744aMain
import Derived.Test.Qxb6608744aNil
import Derived.ProofKit
import Derived.OpenShut
import Derived.ShutString
import Derived.ChangeOld
import Derived.Below
import Derived.SliceStrings
namespace Go.Proofs.Qxb6608744a
open Go.ChangeShapes Go.WideShapes Go.ChangeAt Go.RowKit
open Go.ChangeMaps (open_string shut_string)
set_option linter.unusedVariables false

theorem own : ownKnob Try.prog.godebug = none := by kernel_rfl
theorem laidOut : laidOutB Try.prog = true := by kernel_rfl

/-- What the walk is told of the slice of strings that came in. -/
def IsStrs (w : World) (a : Option Addr) (len cap : Nat) (ss : List ByteArray) : Prop :=
  (a = none ∧ len = 0 ∧ cap = 0 ∧ ss = []) ∨
  ∃ x, a = some x ∧ len ≤ cap ∧ cap ≤ maxLen ∧ ss.length = len ∧ StrsAt w a ss ∧ ∀ s ∈ ss, s.size ≤ maxLen

theorem strsAt_of (w : World) (x : Addr) (ss : List ByteArray) (len : Nat) (hlen : len ≤ ss.length) (h : ∀ i, i < ss.length → w.cell? (x.add i) = some (.string (ss.getD i ByteArray.empty))) :
    StrsAt w (some x) (ss.take len) := by
  intro i hi
  have hi' : i < len := by simp at hi; omega
  obtain ⟨b, off, spot⟩ := x
  have hspot : spot = none := by simpa [Addr.add] using World.cell?_spot (h 0 (by omega))
  subst hspot
  refine ⟨b, off, rfl, ?_⟩
  have := h i (by omega)
  rw [addr_add] at this
  rw [this]
  simp [List.getD_eq_getElem?_getD, hi']

theorem walk (s0 s1 s2 s3 s5 : ByteArray) (k6 : Int) (a : Option Addr) (len cap : Nat) (ss : List ByteArray) (w : World)
    (h0 : s0.size ≤ maxLen) (h1 : s1.size ≤ maxLen) (h2 : s2.size ≤ maxLen) (h3 : s3.size ≤ maxLen) (h5 : s5.size ≤ maxLen)
    (hs : IsStrs w a len cap ss) :
    Calls Try.prog 3 #[.string s0, .string s1, .string s2, .string s3, .slice a len cap, .string s5, .int .i64 k6] w fun e w' => e = .returned (.bool true) ∧ Below w.heap.size w w' := by
  unfold maxLen at h0 h1 h2 h3 h5
  rcases hs with ⟨rfl, rfl, rfl, rfl⟩ | ⟨x, rfl, hlc, hcm, hl, hst, hsz⟩
  · by_cases hin : s5.size ≤ 65536 ∧ k6 = 0
    · obtain ⟨h5', rfl⟩ := hin
      exact main_nil s0 s1 s2 s3 s5 w h0 h1 h2 h3 h5 h5'
    · exact main_edge s0 s1 s2 s3 s5 k6 none 0 0 [] w h0 h1 h2 h3 h5 (by omega) (by omega) rfl (by simp) (strs_none w)
  · unfold maxLen at hcm hsz
    by_cases hin : len ≤ 4096 ∧ s5.size ≤ 65536 ∧ 0 ≤ k6 ∧ k6 ≤ len
    · obtain ⟨hlen, h5', hk0, hk⟩ := hin
      obtain ⟨k, rfl⟩ := Int.eq_ofNat_of_zero_le hk0
      exact main_some s0 s1 s2 s3 s5 k x len cap ss w h0 h1 h2 h3 h5 (by omega) hlen h5' hl hsz hst
    · exact main_edge s0 s1 s2 s3 s5 k6 (some x) len cap ss w h0 h1 h2 h3 h5 (by omega) (by omega) hl hsz hst

set_option maxRecDepth 100000 in
theorem lifted (os : Os) (started : os.Started) (H : Type) (enc : TypeId × Value → H) :
    ReturnsInHanded {} Try.checked os 3 .any (Rows.fnParseMoveRefusesAnyInsertionSpec.pre6 enc Try.prog Try.f3 Rows.fnParseMoveRefusesAnyInsertionRow.domain false) (Rows.fnParseMoveRefusesAnyInsertionSpec.post enc Try.prog Try.f3 false true false false) := by
  refine returnsInHanded_of_change (C := Try.checked) own started (by kernel_rfl) Try.func3
    (ChangeSpec.witness6 (enc := enc) (C := Try.checked) false ⟨#[], #[.string ByteArray.empty, .string ByteArray.empty, .string ByteArray.empty, .string ByteArray.empty, .slice none 0 0, .string ByteArray.empty, .int .i64 0], []⟩ 8 (by kernel_rfl) (by kernel_rfl) (by kernel_rfl) (by kernel_rfl)) ?_
  intro W base args ds gs before hval0 hW hcnd _
  have hval : ∀ (j : Nat) t v, Try.f3.params[j]? = some t → args[j]? = some v → Value.okWide Try.prog W .any base t v := hval0
  have hW' := hW
  obtain ⟨p, q, hA0, hV, rfl, hfz, hnd⟩ := hW
  have hA : DataW.TrodAll enc Try.prog W 0 (fun _ => true) true Try.f3.params.toList args.toList ds p := hA0
  rw [Try.params3] at hA hval
  obtain ⟨v0, vs0, d0, ds0, p0, q0, hargs, rfl, rfl, h0, r0⟩ := trodAll_cons hA
  obtain ⟨v1, vs1, d1, ds1, p1, q1, rfl, rfl, rfl, h1, r1⟩ := trodAll_cons r0
  obtain ⟨v2, vs2, d2, ds2, p2, q2, rfl, rfl, rfl, h2, r2⟩ := trodAll_cons r1
  obtain ⟨v3, vs3, d3, ds3, p3, q3, rfl, rfl, rfl, h3, r3⟩ := trodAll_cons r2
  obtain ⟨v4, vs4, d4, ds4, p4, q4, rfl, rfl, rfl, h4, r4⟩ := trodAll_cons r3
  obtain ⟨v5, vs5, d5, ds5, p5, q5, rfl, rfl, rfl, h5, r5⟩ := trodAll_cons r4
  obtain ⟨v6, vs6, d6, ds6, p6, q6, rfl, rfl, rfl, h6, r6⟩ := trodAll_cons r5
  obtain ⟨rfl, rfl, rfl⟩ := trodAll_nil r6
  obtain rfl : args = #[v0, v1, v2, v3, v4, v5, v6] := by cases args; simp_all
  obtain ⟨rfl, rfl⟩ := trodVars_none hV
  obtain ⟨s0, rfl, rfl, rfl, w0⟩ := open_string Try.underlying9 (hval 0 9 v0 rfl rfl) h0
  obtain ⟨s1, rfl, rfl, rfl, w1⟩ := open_string Try.underlying9 (hval 1 9 v1 rfl rfl) h1
  obtain ⟨s2, rfl, rfl, rfl, w2⟩ := open_string Try.underlying9 (hval 2 9 v2 rfl rfl) h2
  obtain ⟨s3, rfl, rfl, rfl, w3⟩ := open_string Try.underlying9 (hval 3 9 v3 rfl rfl) h3
  obtain ⟨a4, len4, cap4, rfl⟩ := okWide_slice Try.underlying22 (hval 4 22 v4 rfl rfl)
  have k4 := h4
  have lt4 : ∀ x ∈ p4, x.block < W.heap.size := by obtain ⟨m, hm⟩ := k4; exact DataW.trod_lt m _ _ _ hm
  obtain ⟨z4, w4⟩ : ∃ ss, IsStrs W a4 len4 cap4 ss := by
    obtain ⟨fuel, hf⟩ := h4
    rcases open_strings Try.underlying22 Try.underlying9 (by kernel_rfl) hf with ⟨hcs, _⟩ | ⟨x, l, c, zs, hcs, _, hl, hm, hz, _, hcell, hwz⟩
    · simp [Value.cells] at hcs
      obtain ⟨rfl, rfl, rfl⟩ := hcs
      exact ⟨[], .inl ⟨rfl, rfl, rfl, rfl⟩⟩
    · simp [Value.cells] at hcs
      obtain ⟨rfl, rfl, rfl⟩ := hcs
      have hz' : zs.length = cap4 := by simpa using hz
      exact ⟨zs.take len4, .inr ⟨_, rfl, hl, hm, by simp; omega, strsAt_of W _ zs len4 (by omega) hcell, fun s hs => hwz s (List.mem_of_mem_take hs)⟩⟩
  obtain ⟨s5, rfl, rfl, rfl, w5⟩ := open_string Try.underlying9 (hval 5 9 v5 rfl rfl) h5
  obtain ⟨a6, rfl, rfl, rfl, w6⟩ := open_int Try.underlying3 (hval 6 3 v6 rfl rfl) h6
  clear hA0 hval0
  refine (walk s0 s1 s2 s3 s5 a6 a4 len4 cap4 z4 W w0 w1 w2 w3 w5 w4).mono fun e W' ⟨he, bel⟩ => ?_
  subst he
  exact ⟨_, rfl, _, _, _, [], _, [], hW', trodAll_mk1 (shut_bool Try.underlying4 _), (trodAll_cons_mk (shut_string Try.underlying9 w0) (trodAll_cons_mk (shut_string Try.underlying9 w1) (trodAll_cons_mk (shut_string Try.underlying9 w2) (trodAll_cons_mk (shut_string Try.underlying9 w3) (trodAll_cons_mk (Below.trod laidOut (by kernel_rfl) (of_decide_eq_true (by kernel_rfl)) k4 bel lt4) (trodAll_cons_mk (shut_string Try.underlying9 w5) (trodAll_cons_mk (shut_int Try.underlying3 w6) trodAll_mk0))))))), rfl, bel.frame _, fun h => by cases h⟩

theorem over : Rows.fnParseMoveRefusesAnyInsertionRow.holds Try.pinned (OpenSpec.ofChange Rows.fnParseMoveRefusesAnyInsertionSpec) :=
  OpenClaim.holds_of_wide 3 Try.f3 rfl rfl rfl rfl rfl rfl rfl ⟨rfl, rfl, rfl, rfl, rfl⟩ rfl rfl rfl rfl rfl (by kernel_rfl) Try.func3 (by kernel_rfl)
    (of_decide_eq_true (by kernel_rfl)) (by unfold Func.isWrapper; first | (rw [if_pos (by decide +kernel)]; kernel_rfl) | (rw [if_neg (by decide +kernel)]; exact ⟨rfl, rfl⟩))
    (fun os started H enc _ => lifted os started H enc)

/-- THE STATEMENT -/
theorem proved : Rows.FnParseMoveRefusesAnyInsertionSaid := over
#print axioms proved
end Go.Proofs.Qxb6608744a
