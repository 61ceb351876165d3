import Derived.Test.Qxb6608853aRows
import Derived.WalkKit
import Derived.WalkSpells
import Derived.WalkLawsBesides
import Derived.Deep.AppendLies
namespace Go.Proofs.Qxb6608853a
open Go.RowKit

theorem Try.info50 : (Try.prog.info? 50).map (fun i => (i.zero, i.size, i.bytes)) = some (some .nilIface, 1, 16) := by kernel_rfl

theorem lt_of_heap {w : World} {B : Nat} {o : Obj} (h : w.heap[B]? = some o) : B < w.heap.size := by
  obtain ⟨h, _⟩ := Array.getElem?_eq_some_iff.1 h; exact h

/-- Block D is a document whose definitions are the values ds, in a row of the call's own. -/
structure DocIs (B : Nat) (w : World) (D : Nat) (v : Value) (ds : List Value) : Prop where
  box : w.heap[D]? = some (.cells #[v] 29 (0, 0))
  row : w.ownsRow B 50 1 v ds.length ds
  low : B ≤ D

/-- What an append to document D leaves: every old block but the document's own and its row is as it was. -/
structure Turned (w w' : World) (D : Nat) (v : Value) : Prop where
  os : w'.os = w.os
  tape : w'.tape = w.tape
  output : w'.output = w.output
  size : w.heap.size ≤ w'.heap.size
  block : ∀ k, k < w.heap.size → k ≠ D → some k ≠ v.ownBlock → w'.heap[k]? = w.heap[k]?

theorem row_type {w : World} {B n : Nat} {e : TypeId} {v : Value} {xs : List Value} (h : w.ownsRow B e 1 v n xs) {k : Nat} (hk : v.ownBlock = some k) : B ≤ k ∧ ∃ cur, w.heap[k]? = some (.cells cur e (0, 0)) := by
  obtain ⟨_, (⟨rfl, _⟩ | ⟨g, cap, cur, rfl, hB, hg, _⟩)⟩ := h
  · cases hk
  · cases hk
    exact ⟨hB, cur, hg⟩

theorem ne_row {w : World} {B n : Nat} {e t : TypeId} {v : Value} {xs : List Value} (h : w.ownsRow B e 1 v n xs) {k : Nat} {cs : Array Value} {f : Nat × Nat} (hk : w.heap[k]? = some (.cells cs t f)) (hne : t ≠ e) : some k ≠ v.ownBlock := by
  intro hh
  obtain ⟨_, cur, hc⟩ := row_type h hh.symm
  rw [hk] at hc
  cases hc
  exact hne rfl

/-- The document's cell behind the row's growth. -/
theorem doc_cell {B : Nat} {w w1 : World} {D : Nat} {v : Value} {ds : List Value} {o : Obj} (h : DocIs B w D v ds) (hgrow : (w.alloc o).grownBy w1 v.ownBlock) : w1.heap[D]? = some (.cells #[v] 29 (0, 0)) :=
  (hgrow.block D (by have := lt_of_heap h.box; simp; omega) (ne_row h.row h.box (by decide))).trans ((Below.heap_alloc _ _ _ (lt_of_heap h.box)).trans h.box)

theorem heap_setCell (w : World) (L k : Nat) (v : Value) (c : Array Value) (e : TypeId) (f : Nat × Nat) (h : w.heap[L]? = some (.cells c e f)) :
    (w.setCell ⟨L, k, none⟩ v).heap[L]? = some (.cells (c.setIfInBounds k v) e f) := by
  simp [World.setCell, Array.getElem?_modify, h]

/-- The end of an append: the row has grown, the document's cell holds the new slice. -/
theorem add_end {B : Nat} {w w1 : World} {D : Nat} {v v' x : Value} {ds : List Value} {o : Obj} (h : DocIs B w D v ds)
    (hown : w1.ownsRow B 50 1 v' (ds.length + 1) (ds ++ [x])) (hgrow : (w.alloc o).grownBy w1 v.ownBlock) (hat : v'.ownBlock = v.ownBlock ∨ v'.ownBlock = some (w.heap.size + 1)) :
    DocIs B (w1.setCell ⟨D, 0, none⟩ v') D v' (ds ++ [x]) ∧ (v'.ownBlock = v.ownBlock ∨ ∃ k, v'.ownBlock = some k ∧ w.heap.size ≤ k) ∧ Turned w (w1.setCell ⟨D, 0, none⟩ v') D v := by
  have hD := lt_of_heap h.box
  have hne : some D ≠ v.ownBlock := ne_row h.row h.box (by decide)
  have hD1 : w1.heap[D]? = some (.cells #[v] 29 (0, 0)) := (hgrow.block D (by simp; omega) hne).trans ((Below.heap_alloc _ _ _ hD).trans h.box)
  have hne' : some D ≠ v'.ownBlock := ne_row hown hD1 (by decide)
  refine ⟨⟨?_, ?_, h.low⟩, ?_, ?_⟩
  · have := heap_setCell w1 D 0 v' _ _ _ hD1
    simpa using this
  · have : (ds ++ [x]).length = ds.length + 1 := by simp
    rw [this]
    exact World.ownsRow.kept hown (row := some D) ⟨rfl, rfl, rfl, by simp [World.setCell], fun k hk hkD => Below.heap_setCell _ _ _ _ (fun e => hkD (by rw [e]))⟩ (.inr (fun e => hne' e.symm))
  · rcases hat with e | e
    · exact .inl e
    · exact .inr ⟨_, e, by omega⟩
  · refine ⟨hgrow.os, hgrow.tape, hgrow.output, by have := hgrow.size; simp at this; simp [World.setCell]; omega, fun k hk hkD hkr => ?_⟩
    rw [Below.heap_setCell _ _ _ _ (show k ≠ (⟨D, 0, none⟩ : Addr).block from hkD), hgrow.block k (by simp; omega) hkr, Below.heap_alloc _ _ _ hk]

theorem one_iface (t : TypeId) (x : Value) : ∀ u ∈ [Value.iface t x], u.oneCell' = true := by
  intro u hu; simp at hu; subst hu; rfl

theorem own_at {v : Value} {g n cap H : Nat} (h : v.ownBlock = some g ∨ g = H) : (Value.slice (some ⟨g, 0, none⟩) n cap).ownBlock = v.ownBlock ∨ (Value.slice (some ⟨g, 0, none⟩) n cap).ownBlock = some H := by
  rcases h with h | rfl
  · exact .inl h.symm
  · exact .inr rfl

set_option maxHeartbeats 400000 in
theorem addFrag_any (B : Nat) (D b : Nat) (v : Value) (ds : List Value) (w : World) (h : DocIs B w D v ds) (hl : ds.length ≤ 65537) (hB : B ≤ w.heap.size) :
    Calls Try.prog 6 #[.pointer (some ⟨D, 0, none⟩), .pointer (some ⟨b, 0, none⟩)] w fun e w' => e = .returned (.tuple #[]) ∧ ∃ v', DocIs B w' D v' (ds ++ [.iface 30 (.pointer (some ⟨b, 0, none⟩))]) ∧ (v'.ownBlock = v.ownBlock ∨ ∃ k, v'.ownBlock = some k ∧ w.heap.size ≤ k) ∧ Turned w w' D v := by
  have c0 : w.cell? ⟨D, 0, none⟩ = some v := by simp [World.cell?, h.box]
  have f0 : w.frozen? ⟨D, 0, none⟩ = false := by simp [World.frozen?, h.box]
  obtain ⟨i0, hi, hz0, hz1, hz2⟩ := info_parts Try.info50
  go_enter Try.func6, Try.ntmps6
  go_wp2_with (at_builtin; refine wpList_append_lies _ rfl (.tmp 8) (.tmp 11) 27 rfl B 50 i0 .nilIface 1 16 Try.underlying27 hi hz0 hz1 hz2 rfl (by decide) v ds.length ds rfl (h.row.alloc _) ⟨w.heap.size, 0, none⟩ 1 1 [.iface 30 (.pointer (some ⟨b, 0, none⟩))] rfl rfl (cell_one_new _ _ _) (one_iface _ _) (by omega) (by unfold maxLen; omega) (by omega) (by simp; omega) (w.heap.size + 1) (by simp) ?_; intro g cap w1 hown1 hgrow1 hat1 _; have hd1 := doc_cell h hgrow1; have cD1 : w1.cell? ⟨D, 0, none⟩ = some v := (by simp [World.cell?, hd1]); have fD1 : w1.frozen? ⟨D, 0, none⟩ = false := (by simp [World.frozen?, hd1]); clear hd1)
  go_end0
  exact ⟨rfl, _, add_end h hown1 hgrow1 (own_at hat1)⟩

set_option maxHeartbeats 400000 in
theorem addDir_any (B : Nat) (D b : Nat) (v : Value) (ds : List Value) (w : World) (h : DocIs B w D v ds) (hl : ds.length ≤ 65537) (hB : B ≤ w.heap.size) :
    Calls Try.prog 7 #[.pointer (some ⟨D, 0, none⟩), .pointer (some ⟨b, 0, none⟩)] w fun e w' => e = .returned (.tuple #[]) ∧ ∃ v', DocIs B w' D v' (ds ++ [.iface 39 (.pointer (some ⟨b, 0, none⟩))]) ∧ (v'.ownBlock = v.ownBlock ∨ ∃ k, v'.ownBlock = some k ∧ w.heap.size ≤ k) ∧ Turned w w' D v := by
  have c0 : w.cell? ⟨D, 0, none⟩ = some v := by simp [World.cell?, h.box]
  have f0 : w.frozen? ⟨D, 0, none⟩ = false := by simp [World.frozen?, h.box]
  obtain ⟨i0, hi, hz0, hz1, hz2⟩ := info_parts Try.info50
  go_enter Try.func7, Try.ntmps7
  go_wp2_with (at_builtin; refine wpList_append_lies _ rfl (.tmp 8) (.tmp 11) 27 rfl B 50 i0 .nilIface 1 16 Try.underlying27 hi hz0 hz1 hz2 rfl (by decide) v ds.length ds rfl (h.row.alloc _) ⟨w.heap.size, 0, none⟩ 1 1 [.iface 39 (.pointer (some ⟨b, 0, none⟩))] rfl rfl (cell_one_new _ _ _) (one_iface _ _) (by omega) (by unfold maxLen; omega) (by omega) (by simp; omega) (w.heap.size + 1) (by simp) ?_; intro g cap w1 hown1 hgrow1 hat1 _; have hd1 := doc_cell h hgrow1; have cD1 : w1.cell? ⟨D, 0, none⟩ = some v := (by simp [World.cell?, hd1]); have fD1 : w1.frozen? ⟨D, 0, none⟩ = false := (by simp [World.frozen?, hd1]); clear hd1)
  go_end0
  exact ⟨rfl, _, add_end h hown1 hgrow1 (own_at hat1)⟩

end Go.Proofs.Qxb6608853a
