import Derived.Test.Qxb6608853aLook
namespace Go.Proofs.Qxb6608853a
open Go.RowKit Go.Maps

/-- Two slices do not lie in one row. -/
def Apart (v v' : Value) : Prop := ∀ k, v.ownBlock = some k → v'.ownBlock ≠ some k

theorem Apart.symm {v v' : Value} (h : Apart v v') : Apart v' v := fun k hk hk' => h k hk' hk

theorem row_lt {w : World} {B n : Nat} {e : TypeId} {v : Value} {xs : List Value} (h : w.ownsRow B e 1 v n xs) {k : Nat} (hk : v.ownBlock = some k) : k < w.heap.size := by
  obtain ⟨_, _, hc⟩ := row_type h hk
  exact lt_of_heap hc

theorem DocIs.of_heap {B : Nat} {w w' : World} {D : Nat} {v : Value} {ds : List Value} (h : DocIs B w D v ds) (hD : w'.heap[D]? = w.heap[D]?) (hr : ∀ k, v.ownBlock = some k → w'.heap[k]? = w.heap[k]?) : DocIs B w' D v ds := by
  refine ⟨hD.trans h.box, ?_, h.low⟩
  obtain ⟨hl, (⟨rfl, hn⟩ | ⟨g, cap, cur, rfl, hB, hg, a1, a2, a3, a4⟩)⟩ := h.row
  · exact ⟨hl, .inl ⟨rfl, hn⟩⟩
  · exact ⟨hl, .inr ⟨g, cap, cur, rfl, hB, (hr g rfl).trans hg, a1, a2, a3, a4⟩⟩

theorem DocIs.later {B : Nat} {w w' : World} {D : Nat} {v : Value} {ds : List Value} (h : DocIs B w D v ds) (hb : Below w.heap.size w w') : DocIs B w' D v ds :=
  h.of_heap (hb.block D (lt_of_heap h.box)) (fun _ hk => hb.block _ (row_lt h.row hk))

theorem DocIs.setCell {B : Nat} {w : World} {D F j : Nat} {v u : Value} {ds : List Value} {cs : Array Value} {f : Nat × Nat} (h : DocIs B w D v ds) (hF : w.heap[F]? = some (.cells cs 30 f)) : DocIs B (w.setCell ⟨F, j, none⟩ u) D v ds := by
  refine h.of_heap (Below.heap_setCell _ _ _ _ ?_) (fun k hk => Below.heap_setCell _ _ _ _ ?_)
  · intro e
    simp only at e
    subst e
    have := h.box
    rw [hF] at this
    simp at this
  · intro e
    simp only at e
    subst e
    obtain ⟨_, cur, hc⟩ := row_type h.row hk
    rw [hF] at hc
    simp at hc

theorem DocIs.turned {B : Nat} {w w' : World} {D D' : Nat} {v v' : Value} {ds ds' : List Value} (h : DocIs B w D v ds) (h' : DocIs B w D' v' ds') (ht : Turned w w' D' v') (hne : D ≠ D') (ha : Apart v v') : DocIs B w' D v ds := by
  refine h.of_heap (ht.block D (lt_of_heap h.box) hne (ne_row h'.row h.box (by decide))) (fun k hk => ht.block k (row_lt h.row hk) ?_ ?_)
  · intro e
    subst e
    obtain ⟨_, cur, hc⟩ := row_type h.row hk
    rw [h'.box] at hc
    simp at hc
  · intro e
    exact ha k hk e.symm

theorem apart_turned {B : Nat} {w : World} {D : Nat} {v v' v'' : Value} {ds : List Value} (h : DocIs B w D v ds) (ha : Apart v v') (hat : v''.ownBlock = v'.ownBlock ∨ ∃ k, v''.ownBlock = some k ∧ w.heap.size ≤ k) : Apart v v'' := by
  intro k hk hk'
  rcases hat with e | ⟨k2, e, hle⟩
  · exact ha k hk (by rw [← e]; exact hk')
  · rw [e] at hk'
    cases hk'
    have := row_lt h.row hk
    omega

theorem Turned.below {B : Nat} {w w' : World} {D : Nat} {v : Value} {ds : List Value} (h : DocIs B w D v ds) (ht : Turned w w' D v) (hB : B ≤ w.heap.size) : Below B w w' :=
  ⟨ht.os, ht.tape, ht.output, ht.size, fun k hk => ht.block k (by omega) (by have := h.low; omega) (fun e => by have := (row_type h.row e.symm).1; omega)⟩

/-- A block that is neither a document nor a row of definitions is as it was behind an append. -/
theorem Turned.keeps {B : Nat} {w w' : World} {D k : Nat} {v : Value} {ds : List Value} {cs : Array Value} {t : TypeId} {f : Nat × Nat} (h : DocIs B w D v ds) (ht : Turned w w' D v) (hk : w.heap[k]? = some (.cells cs t f)) (h1 : t ≠ 29) (h2 : t ≠ 50) : w'.heap[k]? = some (.cells cs t f) := by
  refine (ht.block k (lt_of_heap hk) ?_ (ne_row h.row hk h2)).trans hk
  intro e
  subst e
  rw [h.box] at hk
  simp at hk
  exact h1 hk.2.1.symm

/-- A fragment as it lies in memory. -/
def fragObj (s : ByteArray) (line : Int) : Obj :=
  .cells #[.string s, .pointer none, .slice none 0 0, .slice none 0 0, .int .i64 line, .int .i64 1, .int .i64 0, .int .i64 0] 37

end Go.Proofs.Qxb6608853a
