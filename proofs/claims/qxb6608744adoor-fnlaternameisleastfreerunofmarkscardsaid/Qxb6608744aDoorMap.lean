import Derived.Test.Qxb6608744aDoorLater
import Derived.Maps.OwnSet
namespace Go.Proofs.Qxb6608744aDoor
open Go.RowKit Go.Maps Go.WideElems Go.WideMaps

theorem law : Keyed Tryd.prog 9 := string_keyed Tryd.underlying9
theorem zero4 (w : World) : (zeroValue 4).run Tryd.prog w = .ok (.bool false) w := by kernel_rfl

theorem beq_toList {a b : ByteArray} {x y : List UInt8} (ha : a.data.toList = x) (hb : b.data.toList = y) {r : Bool} (h : (x == y) = r) : (a.toList == b.toList) = r := by
  rw [ByteArray.toList_eq, ByteArray.toList_eq, ha, hb, h]

theorem tab_later {w w' : World} (hb : Below w.heap.size w w') (h : Lib.TabIs Tryd.prog w powName .u64 Lib.pow10Tab) : Lib.TabIs Tryd.prog w' powName .u64 Lib.pow10Tab :=
  Lib.tabBelow_of_tabIs h w' hb

/-- The nil map. -/
theorem mapIs_none (w : World) : MapIs w none 0 (fun _ => false) where
  look := fun wx _ s hs => by
    have := Maps.look_nil (w := wx) false law Tryd.underlying22 (zero4 wx) (keyOf_string_mk Tryd.underlying9 hs)
    simpa using this
  len := fun wx _ ty => Maps.len_nil Tryd.underlying22 ty
  fin := fun l _ h => by
    cases l with
    | nil => simp
    | cons x l => have := h x (by simp); simp at this

theorem plainElem_bool_inv {H : Type} {P : Program} {e : TypeId} (he : P.underlying e = some .bool) {v : Value} {z : DataW H × List MemPlace} (h : plainElem P e v = some z) : ∃ c, v = .bool c ∧ z = (.lit (.bool c), []) := by
  unfold plainElem at h
  rw [he] at h
  split at h
  · cases h; exact ⟨_, rfl, rfl⟩
  · rename_i hq; cases hq
  · rename_i hq; cases hq
  · cases h

theorem elemAt_plainElem_bool {H : Type} {P : Program} {enc : TypeId × Value → H} {e : TypeId} (he : P.underlying e = some .bool) {W : World} {base : Nat} {sp : Nat → Bool} {held : Bool} {m : Nat} {v : Value} {z : DataW H × List MemPlace}
    (h : elemAt enc P W base sp held m e v = some z) : plainElem P e v = some z := by
  obtain ⟨a, rfl, rfl⟩ := WideElems.elemAt_bool he h
  exact plainElem_bool he a

def boolOf {H : Type} : DataW H → Bool
  | .lit (.bool b) => b
  | _ => false

/-- What a look-up answers, off the map's datum. -/
def tkOf {H : Type} (D : DataW H) (x : List UInt8) : Bool := boolOf (D.atKey (.string x) (.lit (.bool false)))

theorem length_le_of_mem : ∀ (l ks : List (List UInt8)), l.Pairwise (fun a b => a ≠ b) → (∀ x ∈ l, x ∈ ks) → l.length ≤ ks.length
  | [], ks, _, _ => by simp
  | x :: l, ks, hp, hm => by
    obtain ⟨hx, hp'⟩ := List.pairwise_cons.1 hp
    have h1 : x ∈ ks := hm x (by simp)
    have h2 := length_le_of_mem l (ks.erase x) hp' (fun y hy => (List.mem_erase_of_ne (fun e => hx y hy e.symm)).2 (hm y (by simp [hy])))
    have h3 := List.length_erase_of_mem h1
    have h4 := List.length_pos_of_mem h1
    simp
    omega

/-- The keys that are strings. -/
def strKeys {H : Type} (es : List (Lit × DataW H)) : List (List UInt8) := es.filterMap fun p => match p.1 with | .string s => some s | _ => none

theorem mapIs_some {H : Type} {w : World} {b n : Nat} {D : DataW H} (h : w.ownsMap Tryd.prog 9 (plainElem Tryd.prog 4) b n D) : MapIs w (some b) (Maps.size D) (tkOf D) where
  look := fun wx hb s hs => by
    have hx : wx.ownsMap Tryd.prog 9 (plainElem Tryd.prog 4) b n D := by
      obtain ⟨es, clock, hh, F, hs, e⟩ := h
      exact ⟨es, clock, (hb.block b (by obtain ⟨hlt, _⟩ := Array.getElem?_eq_some_iff.1 hh; exact hlt)).trans hh, F, hs, e⟩
    obtain ⟨v, ps, hrun, hv⟩ := hx.lookup law Tryd.underlying22 (zero4 wx) (plainElem_bool Tryd.underlying4 false) (keyOf_string_mk Tryd.underlying9 hs)
    obtain ⟨c, rfl, hc⟩ := plainElem_bool_inv Tryd.underlying4 hv
    simp only [Prod.mk.injEq] at hc
    rw [hrun, tkOf, hc.1]
    rfl
  len := fun wx hb ty => by
    have hx : wx.ownsMap Tryd.prog 9 (plainElem Tryd.prog 4) b n D := by
      obtain ⟨es, clock, hh, F, hs, e⟩ := h
      exact ⟨es, clock, (hb.block b (by obtain ⟨hlt, _⟩ := Array.getElem?_eq_some_iff.1 hh; exact hlt)).trans hh, F, hs, e⟩
    exact hx.len Tryd.underlying22 ty
  fin := fun l hp ht => by
    obtain ⟨es, rfl, _⟩ := h.tidy law
    have h0 := length_le_of_mem l (strKeys es) hp (by
      intro x hx
      have := ht x hx
      unfold tkOf DataW.atKey at this
      cases hf : es.find? (fun p => p.1.sameKey (.string x)) with
      | none => simp [hf, boolOf] at this
      | some p =>
        have h1 := List.find?_some hf
        have h2 := List.mem_of_find?_eq_some hf
        have h3 : p.1 = .string x := by
          rcases Classical.em (p.1 = .string x) with e | e
          · exact e
          · rw [Maps.sameKey_ne e] at h1; cases h1
        exact List.mem_filterMap.2 ⟨p, h2, by rw [h3]⟩)
    have h1 := List.length_filterMap_le (fun p : Lit × DataW H => match p.1 with | .string s => some s | _ => none) es
    exact Nat.le_trans h0 h1

end Go.Proofs.Qxb6608744aDoor
