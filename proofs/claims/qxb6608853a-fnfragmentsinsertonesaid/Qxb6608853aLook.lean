import Derived.Test.Qxb6608853aFrags
import Derived.Test.Qxb6608853aPlain
namespace Go.Proofs.Qxb6608853a
open Go.RowKit Go.Maps Go.WideElems Go.WideMaps

theorem snoc_ind {α : Type} {P : List α → Prop} (h0 : P []) (h1 : ∀ l x, P l → P (l ++ [x])) (l : List α) : P l := by
  have h : ∀ r : List α, P r.reverse := by
    intro r
    induction r with
    | nil => exact h0
    | cons x r ih => rw [List.reverse_cons]; exact h1 _ _ ih
  have := h l.reverse
  rwa [List.reverse_reverse] at this

theorem key_lit (s : List UInt8) : WideAt.IsKeyLit (.string s) := by trivial

theorem fm_tidy (l : List (List UInt8 × Nat)) : Tidy (fm l) := by
  induction l using snoc_ind with
  | h0 => exact tidy_empty
  | h1 l p ih => rw [fm_snoc]; exact ih.put (key_lit _) _

theorem fm_has (l : List (List UInt8 × Nat)) (s : List UInt8) : Maps.has (fm l) (.string s) = decide (s ∈ l.map Prod.fst) := by
  induction l using snoc_ind with
  | h0 => rfl
  | h1 l p ih =>
    rw [fm_snoc]
    by_cases e : s = p.1
    · subst e
      rw [has_put_same (fm_tidy l).isMap (key_lit _)]; simp
    · rw [has_put_other (fun h => e (Lit.string.inj h)), ih]
      simp [e]

theorem fm_size (l : List (List UInt8 × Nat)) : Maps.size (fm l) = dn (l.map Prod.fst) := by
  induction l using snoc_ind with
  | h0 => rfl
  | h1 l p ih =>
    rw [fm_snoc, size_put (fm_tidy l), fm_has, List.map_append, List.map_cons, List.map_nil, dn_snoc, ih]
    by_cases h : p.1 ∈ l.map Prod.fst <;> simp [h]

/-- What a look-up's pointer reads as. -/
def intB : Option Nat → Int
  | some b => (b : Int)
  | none => -1

theorem fm_at (l : List (List UInt8 × Nat)) (s : List UInt8) : (fm l).atKey (.string s) (.lit (.int .i64 (-1))) = .lit (.int .i64 (intB (lastB l s))) := by
  induction l using snoc_ind with
  | h0 => rfl
  | h1 l p ih =>
    rw [fm_snoc, lastB_snoc]
    by_cases e : p.1 = s
    · subst e
      rw [atKey_put_same (fm_tidy l).isMap (key_lit _), if_pos rfl]; rfl
    · rw [atKey_put_other (fun h => e (Lit.string.inj h).symm), ih, if_neg e]

/-- The pointer that a look-up gives. -/
def ptrOf : Option Nat → Value
  | some b => .pointer (some ⟨b, 0, none⟩)
  | none => .pointer none

theorem ptrR_inv {v : Value} {o : Option Nat} {ps : List MemPlace} (h : ptrR v = some (.lit (.int .i64 (intB o)), ps)) : v = ptrOf o := by
  unfold ptrR at h
  split at h
  · simp only [Option.some.injEq, Prod.mk.injEq, DataW.lit.injEq, Lit.int.injEq, true_and] at h
    cases o with
    | none => rfl
    | some b => exfalso; have := h.1; simp [intB] at this
  · rename_i a
    split at h
    · rename_i ha
      simp only [Option.some.injEq, Prod.mk.injEq, DataW.lit.injEq, Lit.int.injEq, true_and] at h
      cases o with
      | none => exfalso; have := h.1; simp [intB] at this
      | some b =>
        have hb : a.block = b := by have := h.1; simp only [intB] at this; omega
        obtain ⟨bl, off, spot⟩ := a
        simp only at ha hb
        obtain ⟨rfl, rfl⟩ := ha
        subst hb
        rfl
    · cases h
  · cases h

/-- Block M is the map that the entries l have filled. -/
def MapHas (w : World) (M : Nat) (l : List (List UInt8 × Nat)) : Prop := ∃ n, w.ownsMap Try.prog 9 ptrR M n (fm l)

theorem MapHas.look {w : World} {M : Nat} {l : List (List UInt8 × Nat)} (h : MapHas w M l) (s : ByteArray) (hs : s.size ≤ maxLen) :
    (Instr.lookup 46 (.map (some M)) (.string s) false).run Try.prog w = .ok (ptrOf (lastB l s.data.toList)) w := by
  obtain ⟨n, h⟩ := h
  obtain ⟨v, ps, hrun, hv⟩ := h.lookup law Try.underlying46 (zero30 w) (show ptrR (.pointer none) = some (.lit (.int .i64 (-1)), []) from rfl) (keyOf_string_mk Try.underlying9 hs)
  rw [fm_at] at hv
  rw [hrun, ptrR_inv hv]

theorem MapHas.len {w : World} {M : Nat} {l : List (List UInt8 × Nat)} (h : MapHas w M l) (ty : TypeId) :
    (Builtin.len_ #[46] ty #[.map (some M)]).run Try.prog w = .ok (.int .i64 (dn (l.map Prod.fst))) w := by
  obtain ⟨n, h⟩ := h
  rw [h.len Try.underlying46 ty, fm_size]

theorem MapHas.later {w w' : World} {M : Nat} {l : List (List UInt8 × Nat)} (h : MapHas w M l) (hb : w'.heap[M]? = w.heap[M]?) : MapHas w' M l := by
  obtain ⟨n, es, clock, h1, h2⟩ := h
  exact ⟨n, es, clock, hb.trans h1, h2⟩

theorem MapHas.lt {w : World} {M : Nat} {l : List (List UInt8 × Nat)} (h : MapHas w M l) : M < w.heap.size := by
  obtain ⟨n, h⟩ := h
  exact h.lt

end Go.Proofs.Qxb6608853a
