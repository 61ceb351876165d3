import Derived.Test.Qxb6608853aDocs
namespace Go.Proofs.Qxb6608853a
open Go.RowKit Go.Maps

/-- The definitions at m places from i on: is it a fragment, its block, its name. -/
def dsOf (isf : Nat → Bool) (bs : Nat → Nat) (nm : Nat → ByteArray) (i m : Nat) : List (Bool × Nat × ByteArray) := (List.range' i m).map fun t => (isf t, bs t, nm t)

def upd (bs : Nat → Nat) (i N : Nat) : Nat → Nat := fun t => if t = i then N else bs t

theorem dsOf_length (isf : Nat → Bool) (bs : Nat → Nat) (nm : Nat → ByteArray) (i m : Nat) : (dsOf isf bs nm i m).length = m := by simp [dsOf]

theorem dsOf_snoc (isf : Nat → Bool) (bs : Nat → Nat) (nm : Nat → ByteArray) (j m : Nat) : dsOf isf bs nm j (m + 1) = dsOf isf bs nm j m ++ [(isf (j + m), bs (j + m), nm (j + m))] := by
  simp [dsOf, List.range'_concat]

theorem dsOf_upd (isf : Nat → Bool) (bs : Nat → Nat) (nm : Nat → ByteArray) (i N j m : Nat) (h : j + m ≤ i) : dsOf isf (upd bs i N) nm j m = dsOf isf bs nm j m := by
  unfold dsOf
  refine List.map_congr_left fun t ht => ?_
  have := List.mem_range'_1.1 ht
  simp [upd, show t ≠ i by omega]

theorem dsOf_upd_snoc (isf : Nat → Bool) (bs : Nat → Nat) (nm : Nat → ByteArray) (i N j m : Nat) (h : j + m = i) : dsOf isf (upd bs i N) nm j (m + 1) = dsOf isf bs nm j m ++ [(isf i, N, nm i)] := by
  rw [dsOf_snoc, dsOf_upd isf bs nm i N j m (by omega), h]
  simp [upd]

/-- The fragments in memory, and the row of pointers to them. -/
structure Mem (w wr : World) (F : Nat) (nm : Nat → ByteArray) (isf : Nat → Bool) (n i : Nat) (bs : Nat → Nat) : Prop where
  frow : ∃ cur : Array Value, wr.heap[F]? = some (.cells cur 30 (0, 0)) ∧ cur.size = n ∧ ∀ t, t < i → isf t = true → cur[t]? = some (.pointer (some ⟨bs t, 0, none⟩))
  frag : ∀ t, t < i → isf t = true → wr.heap[bs t]? = some (fragObj (nm t) ((t : Int) + 1))
  inj : ∀ s t, s < i → t < i → isf s = true → isf t = true → bs s = bs t → s = t
  below : Below w.heap.size w wr
  low : w.heap.size ≤ F

theorem Mem.old {w wr : World} {F : Nat} {nm : Nat → ByteArray} {isf : Nat → Bool} {n i : Nat} {bs : Nat → Nat} (h : Mem w wr F nm isf n i bs) (j : Nat) (hj : j < n) : (∃ v, wr.cell? ⟨F, j, none⟩ = some v) ∧ wr.frozen? ⟨F, j, none⟩ = false := by
  obtain ⟨cur, h1, h2, _⟩ := h.frow
  exact ⟨⟨cur[j], by simp [World.cell?, h1, h2, hj]⟩, by simp [World.frozen?, h1]⟩

/-- A new fragment at place i, and its pointer in the row. -/
theorem Mem.addFrag {w wr : World} {F : Nat} {nm : Nat → ByteArray} {isf : Nat → Bool} {n i : Nat} {bs : Nat → Nat} (h : Mem w wr F nm isf n i bs) (hi : i < n) :
    Mem w ((wr.alloc (fragObj (nm i) ((i : Int) + 1))).setCell ⟨F, i, none⟩ (.pointer (some ⟨wr.heap.size, 0, none⟩))) F nm isf n (i + 1) (upd bs i wr.heap.size) := by
  obtain ⟨cur, h1, h2, h3⟩ := h.frow
  have hF := lt_of_heap h1
  have hFN : wr.heap.size ≠ F := by omega
  refine ⟨⟨cur.setIfInBounds i (.pointer (some ⟨wr.heap.size, 0, none⟩)), ?_, by simpa using h2, ?_⟩, ?_, ?_, ?_, h.low⟩
  · exact heap_setCell _ _ _ _ _ _ _ ((Below.heap_alloc _ _ _ hF).trans h1)
  · intro t ht hf
    rw [Array.getElem?_setIfInBounds]
    by_cases e : i = t
    · subst e; simp [upd, h2, hi]
    · rw [if_neg e, h3 t (by omega) hf]; simp [upd, show t ≠ i by omega]
  · intro t ht hf
    by_cases e : t = i
    · subst e
      have : upd bs t wr.heap.size t = wr.heap.size := by simp [upd]
      rw [this, Below.heap_setCell _ _ _ _ (show wr.heap.size ≠ (⟨F, t, none⟩ : Addr).block from hFN)]
      exact heap_alloc_new _ _
    · have e2 : upd bs i wr.heap.size t = bs t := by simp [upd, e]
      have hfr := h.frag t (by omega) hf
      have hb := lt_of_heap hfr
      have hne : bs t ≠ F := by
        intro e3
        rw [e3, h1] at hfr
        simp [fragObj] at hfr
      rw [e2, Below.heap_setCell _ _ _ _ (show bs t ≠ (⟨F, i, none⟩ : Addr).block from hne), Below.heap_alloc _ _ _ hb]
      exact hfr
  · intro s t hs ht fs ft e
    by_cases es : s = i
    · by_cases et : t = i
      · omega
      · exfalso
        have := lt_of_heap (h.frag t (by omega) ft)
        simp [upd, es, et] at e
        omega
    · by_cases et : t = i
      · exfalso
        have := lt_of_heap (h.frag s (by omega) fs)
        simp [upd, es, et] at e
        omega
      · simp [upd, es, et] at e
        exact h.inj s t (by omega) (by omega) fs ft e
  · exact (h.below.alloc h.below.size _).setCell h.low _

/-- A new block that is no fragment at place i. -/
theorem Mem.addDir {w wr : World} {F : Nat} {nm : Nat → ByteArray} {isf : Nat → Bool} {n i : Nat} {bs : Nat → Nat} (h : Mem w wr F nm isf n i bs) (hf : isf i = false) (o : Obj) :
    Mem w (wr.alloc o) F nm isf n (i + 1) (upd bs i wr.heap.size) := by
  obtain ⟨cur, h1, h2, h3⟩ := h.frow
  have ne : ∀ t, t < i + 1 → isf t = true → t < i ∧ upd bs i wr.heap.size t = bs t := fun t ht ft => by
    have : t ≠ i := fun e => by rw [e, hf] at ft; cases ft
    exact ⟨by omega, by simp [upd, this]⟩
  refine ⟨⟨cur, (Below.heap_alloc _ _ _ (lt_of_heap h1)).trans h1, h2, fun t ht ft => ?_⟩, fun t ht ft => ?_, fun s t hs ht fs ft e => ?_, h.below.alloc h.below.size _, h.low⟩
  · obtain ⟨a, b⟩ := ne t ht ft
    rw [b]; exact h3 t a ft
  · obtain ⟨a, b⟩ := ne t ht ft
    rw [b, Below.heap_alloc _ _ _ (lt_of_heap (h.frag t a ft))]
    exact h.frag t a ft
  · obtain ⟨a, b⟩ := ne t ht ft
    obtain ⟨c, d⟩ := ne s hs fs
    rw [b, d] at e
    exact h.inj s t c a fs ft e

theorem Mem.turned {w wr w' : World} {F : Nat} {nm : Nat → ByteArray} {isf : Nat → Bool} {n i : Nat} {bs : Nat → Nat} (h : Mem w wr F nm isf n i bs) {D : Nat} {v : Value} {ds : List Value} (hd : DocIs w.heap.size wr D v ds) (ht : Turned wr w' D v) : Mem w w' F nm isf n i bs := by
  obtain ⟨cur, h1, h2, h3⟩ := h.frow
  exact ⟨⟨cur, ht.keeps hd h1 (by decide) (by decide), h2, h3⟩, fun t ht' ft => ht.keeps hd (h.frag t ht' ft) (by decide) (by decide), h.inj, h.below.trans (ht.below hd h.below.size), h.low⟩

/-- The documents, each with its slice and its definitions; no two slices lie in one row. -/
structure Docs (B : Nat) (wr : World) (l : List (Nat × Value × List (Bool × Nat × ByteArray))) : Prop where
  docs : ∀ q ∈ l, DocIs B wr q.1 q.2.1 (q.2.2.map defVal)
  pw : l.Pairwise (fun q r => q.1 ≠ r.1 ∧ Apart q.2.1 r.2.1)

theorem Docs.later {B : Nat} {w w' : World} {l : List (Nat × Value × List (Bool × Nat × ByteArray))} (h : Docs B w l) (hb : Below w.heap.size w w') : Docs B w' l := ⟨fun q hq => (h.docs q hq).later hb, h.pw⟩
theorem Docs.alloc {B : Nat} {w : World} {l : List (Nat × Value × List (Bool × Nat × ByteArray))} (h : Docs B w l) (o : Obj) : Docs B (w.alloc o) l := h.later ((Below.refl _ _).alloc (Nat.le_refl _) _)
theorem Docs.setCell {B : Nat} {w : World} {l : List (Nat × Value × List (Bool × Nat × ByteArray))} (h : Docs B w l) {F j : Nat} {u : Value} {cs : Array Value} {f : Nat × Nat} (hF : w.heap[F]? = some (.cells cs 30 f)) : Docs B (w.setCell ⟨F, j, none⟩ u) l := ⟨fun q hq => (h.docs q hq).setCell hF, h.pw⟩

theorem Docs.add {B : Nat} {w w' : World} {l1 l2 : List (Nat × Value × List (Bool × Nat × ByteArray))} {D : Nat} {v v' : Value} {ds : List (Bool × Nat × ByteArray)} {p : Bool × Nat × ByteArray} (h : Docs B w (l1 ++ (D, v, ds) :: l2))
    (hd : DocIs B w' D v' (ds.map defVal ++ [defVal p])) (hat : v'.ownBlock = v.ownBlock ∨ ∃ k, v'.ownBlock = some k ∧ w.heap.size ≤ k) (ht : Turned w w' D v) : Docs B w' (l1 ++ (D, v', ds ++ [p]) :: l2) := by
  have hD := h.docs (D, v, ds) (by simp)
  have hpw := h.pw
  simp only [List.pairwise_append, List.pairwise_cons, List.mem_cons] at hpw
  obtain ⟨p1, ⟨p2, p3⟩, p4⟩ := hpw
  refine ⟨?_, ?_⟩
  · intro q hq
    simp only [List.mem_append, List.mem_cons] at hq
    rcases hq with hq | rfl | hq
    · have r := p4 q hq _ (.inl rfl)
      exact (h.docs q (by simp [hq])).turned hD ht r.1 r.2
    · simpa using hd
    · have r := p2 q hq
      exact (h.docs q (by simp [hq])).turned hD ht (Ne.symm r.1) r.2.symm
  · simp only [List.pairwise_append, List.pairwise_cons, List.mem_cons]
    refine ⟨p1, ⟨fun q hq => ?_, p3⟩, fun q hq x hx => ?_⟩
    · have r := p2 q hq
      exact ⟨r.1, (apart_turned (h.docs q (by simp [hq])) r.2.symm hat).symm⟩
    rcases hx with rfl | hx
    · have r := p4 q hq _ (.inl rfl)
      exact ⟨r.1, apart_turned (h.docs q (by simp [hq])) r.2 hat⟩
    · exact p4 q hq x (.inr hx)

/-- An empty document. -/
theorem DocIs.fresh {B : Nat} {w : World} {D : Nat} (h : w.heap[D]? = some (.cells #[.slice none 0 0] 29 (0, 0))) (hB : B ≤ D) : DocIs B w D (.slice none 0 0) [] :=
  ⟨h, World.ownsRow_nil _ _ _ _, hB⟩

theorem apart_nil (v : Value) : Apart (.slice none 0 0) v := fun k hk => by cases hk

theorem heap_old {w : World} {k : Nat} {o x : Obj} (h : w.heap[k]? = some o) : (w.alloc x).heap[k]? = some o :=
  (Below.heap_alloc _ _ _ (lt_of_heap h)).trans h
theorem heap_new {w : World} {k : Nat} {o : Obj} (h : k = w.heap.size) : (w.alloc o).heap[k]? = some o := by subst h; exact heap_alloc_new _ _

theorem row_made {w : World} {B g n cap : Nat} {xs : List Value} (h : w.ownsRow B 30 1 (.slice (some ⟨g, 0, none⟩) n cap) n xs) : ∃ cur : Array Value, w.heap[g]? = some (.cells cur 30 (0, 0)) ∧ cur.size = cap := by
  obtain ⟨_, (⟨h, _⟩ | ⟨g', cap', cur, e, _, hg, _, _, hs, _⟩)⟩ := h
  · cases h
  · cases e
    exact ⟨cur, hg, by simpa using hs⟩

theorem Mem.start {w w1 : World} {nm : Nat → ByteArray} {isf : Nat → Bool} {n : Nat} {bs : Nat → Nat} {xs : List Value} (h : w1.ownsRow w.heap.size 30 1 (.slice (some ⟨w.heap.size, 0, none⟩) n n) n xs) (hg : w.grownBy w1 none) : Mem w w1 w.heap.size nm isf n 0 bs := by
  obtain ⟨cur, hc, hs⟩ := row_made h
  exact ⟨⟨cur, hc, hs, fun t ht => by omega⟩, fun t ht => by omega, fun s t hs => by omega, (Below.refl _ _).grown hg (Nat.le_refl _) (by simp), Nat.le_refl _⟩

theorem Mem.alloc {w wr : World} {F : Nat} {nm : Nat → ByteArray} {isf : Nat → Bool} {n i : Nat} {bs : Nat → Nat} (h : Mem w wr F nm isf n i bs) (o : Obj) : Mem w (wr.alloc o) F nm isf n i bs := by
  obtain ⟨cur, h1, h2, h3⟩ := h.frow
  exact ⟨⟨cur, heap_old h1, h2, h3⟩, fun t ht ft => heap_old (h.frag t ht ft), h.inj, h.below.alloc h.below.size _, h.low⟩

theorem Mem.later {w wr w' : World} {F : Nat} {nm : Nat → ByteArray} {isf : Nat → Bool} {n i : Nat} {bs : Nat → Nat} (h : Mem w wr F nm isf n i bs) (hb : Below wr.heap.size wr w') : Mem w w' F nm isf n i bs := by
  obtain ⟨cur, h1, h2, h3⟩ := h.frow
  exact ⟨⟨cur, (hb.block _ (lt_of_heap h1)).trans h1, h2, h3⟩, fun t ht ft => (hb.block _ (lt_of_heap (h.frag t ht ft))).trans (h.frag t ht ft), h.inj, h.below.trans (hb.mono h.below.size), h.low⟩

/-- The three empty documents behind the row. -/
theorem Docs.start3 {B : Nat} {w1 : World} (hB : B ≤ w1.heap.size) : Docs B (((w1.alloc (.cells #[.slice none 0 0] 29)).alloc (.cells #[.slice none 0 0] 29)).alloc (.cells #[.slice none 0 0] 29)) [(w1.heap.size, .slice none 0 0, []), (w1.heap.size + 1, .slice none 0 0, []), (w1.heap.size + 1 + 1, .slice none 0 0, [])] := by
  refine ⟨fun q hq => ?_, ?_⟩
  · simp only [List.mem_cons, List.not_mem_nil, or_false] at hq
    rcases hq with rfl | rfl | rfl
    · exact DocIs.fresh (heap_old (heap_old (heap_new rfl))) hB
    · exact DocIs.fresh (heap_old (heap_new (by simp))) (by simp only; omega)
    · exact DocIs.fresh (heap_new (by simp)) (by simp only; omega)
  · simp [apart_nil]; omega

/-- The two empty documents behind the row. -/
theorem Docs.start2 {B : Nat} {w1 : World} (hB : B ≤ w1.heap.size) : Docs B ((w1.alloc (.cells #[.slice none 0 0] 29)).alloc (.cells #[.slice none 0 0] 29)) [(w1.heap.size, .slice none 0 0, []), (w1.heap.size + 1, .slice none 0 0, [])] := by
  refine ⟨fun q hq => ?_, ?_⟩
  · simp only [List.mem_cons, List.not_mem_nil, or_false] at hq
    rcases hq with rfl | rfl
    · exact DocIs.fresh (heap_old (heap_new rfl)) hB
    · exact DocIs.fresh (heap_new (by simp)) (by simp only; omega)
  · simp [apart_nil]

end Go.Proofs.Qxb6608853a
