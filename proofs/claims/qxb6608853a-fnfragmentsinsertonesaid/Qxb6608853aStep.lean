import Derived.Test.Qxb6608853aBuild
namespace Go.Proofs.Qxb6608853a
open Go.RowKit Go.Maps

theorem set_alloc (w : World) (F i : Nat) (v : Value) (o : Obj) (h : F < w.heap.size) : (w.setCell ⟨F, i, none⟩ v).alloc o = (w.alloc o).setCell ⟨F, i, none⟩ v := by
  unfold World.alloc World.setCell
  simp only [World.mk.injEq, and_true]
  apply Array.ext_getElem?
  intro k
  simp only [Array.getElem?_push, Array.getElem?_modify, Array.size_modify]
  by_cases hk : k = w.heap.size
  · subst hk
    simp [show F ≠ w.heap.size by omega]
  · simp [hk]

/-- The fragment's world, in the walk's order. -/
theorem Mem.stepFrag {w wr : World} {F : Nat} {nm : Nat → ByteArray} {isf : Nat → Bool} {n i : Nat} {bs : Nat → Nat} (h : Mem w wr F nm isf n i bs) (hi : i < n) (o : Obj) (ho : o = fragObj (nm i) ((i : Int) + 1)) :
    Mem w ((wr.setCell ⟨F, i, none⟩ (.pointer (some ⟨wr.heap.size, 0, none⟩))).alloc o) F nm isf n (i + 1) (upd bs i wr.heap.size) := by
  obtain ⟨cur, h1, _⟩ := h.frow
  rw [set_alloc _ _ _ _ _ (lt_of_heap h1), ho]
  exact h.addFrag hi

theorem Docs.stepFrag {w wr : World} {F : Nat} {nm : Nat → ByteArray} {isf : Nat → Bool} {n i : Nat} {bs : Nat → Nat} {B : Nat} {l : List (Nat × Value × List (Bool × Nat × ByteArray))} (h : Mem w wr F nm isf n i bs) (hd : Docs B wr l) (u : Value) (o : Obj) :
    Docs B ((wr.setCell ⟨F, i, none⟩ u).alloc o) l := by
  obtain ⟨cur, h1, _⟩ := h.frow
  exact (hd.setCell h1).alloc o

theorem Docs.all {B : Nat} {w w' : World} {l2 : List (Nat × Value × List (Bool × Nat × ByteArray))} {D : Nat} {v v' : Value} {ds : List (Bool × Nat × ByteArray)} (p : Bool × Nat × ByteArray) (h : Docs B w ((D, v, ds) :: l2))
    (hd : DocIs B w' D v' (ds.map defVal ++ [defVal p])) (hat : v'.ownBlock = v.ownBlock ∨ ∃ k, v'.ownBlock = some k ∧ w.heap.size ≤ k) (ht : Turned w w' D v) : Docs B w' ((D, v', ds ++ [p]) :: l2) :=
  Docs.add (l1 := []) h hd hat ht

theorem Docs.second {B : Nat} {w w' : World} {q : Nat × Value × List (Bool × Nat × ByteArray)} {l2 : List (Nat × Value × List (Bool × Nat × ByteArray))} {D : Nat} {v v' : Value} {ds : List (Bool × Nat × ByteArray)} (p : Bool × Nat × ByteArray) (h : Docs B w (q :: (D, v, ds) :: l2))
    (hd : DocIs B w' D v' (ds.map defVal ++ [defVal p])) (hat : v'.ownBlock = v.ownBlock ∨ ∃ k, v'.ownBlock = some k ∧ w.heap.size ≤ k) (ht : Turned w w' D v) : Docs B w' (q :: (D, v', ds ++ [p]) :: l2) :=
  Docs.add (l1 := [q]) h hd hat ht

theorem Docs.third {B : Nat} {w w' : World} {q r : Nat × Value × List (Bool × Nat × ByteArray)} {l2 : List (Nat × Value × List (Bool × Nat × ByteArray))} {D : Nat} {v v' : Value} {ds : List (Bool × Nat × ByteArray)} (p : Bool × Nat × ByteArray) (h : Docs B w (q :: r :: (D, v, ds) :: l2))
    (hd : DocIs B w' D v' (ds.map defVal ++ [defVal p])) (hat : v'.ownBlock = v.ownBlock ∨ ∃ k, v'.ownBlock = some k ∧ w.heap.size ≤ k) (ht : Turned w w' D v) : Docs B w' (q :: r :: (D, v', ds ++ [p]) :: l2) :=
  Docs.add (l1 := [q, r]) h hd hat ht

theorem Docs.stepL {B : Nat} {w : World} {A L R i c N : Nat} {va vl vr : Value} {isf : Nat → Bool} {bs : Nat → Nat} {nm : Nat → ByteArray} (hic : i < c)
    (h : Docs B w [(A, va, dsOf isf bs nm 0 i ++ [(isf i, N, nm i)]), (L, vl, dsOf isf bs nm 0 (min i c) ++ [(isf i, N, nm i)]), (R, vr, dsOf isf bs nm c (i - c))]) :
    Docs B w [(A, va, dsOf isf (upd bs i N) nm 0 (i + 1)), (L, vl, dsOf isf (upd bs i N) nm 0 (min (i + 1) c)), (R, vr, dsOf isf (upd bs i N) nm c (i + 1 - c))] := by
  rw [show min (i + 1) c = min i c + 1 by omega, show i + 1 - c = 0 by omega, dsOf_upd_snoc isf bs nm i N 0 i (by omega), dsOf_upd_snoc isf bs nm i N 0 (min i c) (by omega)]
  rw [show i - c = 0 by omega] at h
  exact h

theorem Docs.stepR {B : Nat} {w : World} {A L R i c N : Nat} {va vl vr : Value} {isf : Nat → Bool} {bs : Nat → Nat} {nm : Nat → ByteArray} (hic : ¬ i < c)
    (h : Docs B w [(A, va, dsOf isf bs nm 0 i ++ [(isf i, N, nm i)]), (L, vl, dsOf isf bs nm 0 (min i c)), (R, vr, dsOf isf bs nm c (i - c) ++ [(isf i, N, nm i)])]) :
    Docs B w [(A, va, dsOf isf (upd bs i N) nm 0 (i + 1)), (L, vl, dsOf isf (upd bs i N) nm 0 (min (i + 1) c)), (R, vr, dsOf isf (upd bs i N) nm c (i + 1 - c))] := by
  rw [show min (i + 1) c = min i c by omega, show i + 1 - c = i - c + 1 by omega, dsOf_upd_snoc isf bs nm i N 0 i (by omega), dsOf_upd_snoc isf bs nm i N c (i - c) (by omega), dsOf_upd isf bs nm i N 0 (min i c) (by omega)]
  exact h

theorem defVal_dir {isf : Nat → Bool} {i : Nat} (h : isf i = false) (N : Nat) (s : ByteArray) : defVal (isf i, N, s) = .iface 39 (.pointer (some ⟨N, 0, none⟩)) := by rw [h]; rfl
theorem defVal_frag {isf : Nat → Bool} {i : Nat} (h : isf i = true) (N : Nat) (s : ByteArray) : defVal (isf i, N, s) = .iface 30 (.pointer (some ⟨N, 0, none⟩)) := by rw [h]; rfl

end Go.Proofs.Qxb6608853a
