import Derived.Test.Qxb6608744aSmall
import Derived.Test.Qxb6608744aMove
import Derived.Laws.CopyOwn
namespace Go.Proofs.Qxb6608744a
open Go.RowKit

theorem Try.info9 : (Try.prog.info? 9).map (fun i => (i.zero, i.size, i.bytes)) = some (some (.string ByteArray.empty), 1, 16) := by kernel_rfl

/-- The strings as cells. -/
def cellsOf (ss : List ByteArray) : List Value := ss.map Value.string
theorem cellsOf_length (ss : List ByteArray) : (cellsOf ss).length = ss.length := by simp [cellsOf]
theorem cellsOf_one (ss : List ByteArray) : ∀ v ∈ cellsOf ss, v.oneCell' = true := by
  intro v hv; simp [cellsOf] at hv; obtain ⟨s, _, rfl⟩ := hv; rfl
theorem cellsOf_at (ss : List ByteArray) (j : Nat) (v : Value) (h : (cellsOf ss)[j]? = some v) : j < ss.length ∧ v = .string (ss.getD j ByteArray.empty) := by
  simp [cellsOf] at h
  obtain ⟨s, hs, rfl⟩ := h
  obtain ⟨hj, rfl⟩ := List.getElem?_eq_some_iff.1 hs
  exact ⟨hj, by simp [List.getD_eq_getElem?_getD, hj]⟩

/-- What the walks are told of a slice of strings. -/
def StrsAt (w : World) (a : Option Addr) (ss : List ByteArray) : Prop :=
  ∀ i, i < ss.length → ∃ b o, a = some ⟨b, o, none⟩ ∧ w.cell? ⟨b, o + i, none⟩ = some (.string (ss.getD i ByteArray.empty))

theorem addr_add (b o j : Nat) : (⟨b, o, none⟩ : Addr).add j = ⟨b, o + j, none⟩ := by
  unfold Addr.add; split <;> simp_all

theorem strs_src {w : World} {ad : Addr} {ss : List ByteArray} (h : StrsAt w (some ad) ss) (w' : World) (hb : Below w.heap.size w w') :
    ∀ j v, (cellsOf ss)[j]? = some v → w'.cell? (ad.add j) = some v := by
  intro j v hv
  obtain ⟨hj, rfl⟩ := cellsOf_at ss j v hv
  obtain ⟨b, o, e, hc⟩ := h j hj
  cases e
  have hlt := World.block_lt_of_cell? _ _ hc
  rw [addr_add]; exact (hb.cell (p := ⟨b, o + j, none⟩) hlt).trans hc

theorem row_of_own {w : World} {B g n cap : Nat} {xs : List Value} (h : w.ownsRow B 9 1 (.slice (some ⟨g, 0, none⟩) n cap) n xs) :
    ∃ cur : List Value, w.heap[g]? = some (.cells cur.toArray 9 (0, 0)) ∧ cur.length = cap := by
  obtain ⟨_, (⟨h, _⟩ | ⟨g', cap', cur, e, _, hg, _, _, hs, _⟩)⟩ := h
  · cases h
  · cases e
    exact ⟨cur.toList, by simpa using hg, by simpa using hs⟩

theorem strs_row {w : World} {B : Nat} {ss : List ByteArray} {cur : List Value} (hc : cur.length = ss.length) (h : Hid (w.heap[B]? = some (.cells (splice cur 0 (cellsOf ss)).toArray 9 (0, 0)))) :
    w.heap[B]? = some (.cells (cellsOf ss).toArray 9 (0, 0)) := by
  have h' := h.out
  have e : splice cur 0 (cellsOf ss) = cellsOf ss := by
    simp [splice, cellsOf_length, ← hc]
  rw [e] at h'
  exact h'

theorem strs_of_row {w : World} {B : Nat} {ss : List ByteArray} (h : w.heap[B]? = some (.cells (cellsOf ss).toArray 9 (0, 0))) : StrsAt w (some ⟨B, 0, none⟩) ss := by
  intro i hi
  refine ⟨B, 0, rfl, ?_⟩
  simp [World.cell?, h, cellsOf, List.getD_eq_getElem?_getD, hi]

theorem lt_of_heap {w : World} {B : Nat} {o : Obj} (h : w.heap[B]? = some o) : B < w.heap.size := by
  obtain ⟨h, _⟩ := Array.getElem?_eq_some_iff.1 h; exact h

/-- The cells of a part of the row, seen from a later world. -/
theorem cells_part {w : World} {B : Nat} {ss : List ByteArray} (h : w.heap[B]? = some (.cells (cellsOf ss).toArray 9 (0, 0))) (k : Nat) (ts : List ByteArray) (hts : ts = (ss.drop k).take ts.length)
    {ao : Option Addr} (hao : ts.length ≠ 0 → ao = some ⟨B, k, none⟩) : ∀ ad, ao = some ad → ∀ j u, (cellsOf ts)[j]? = some u → w.cell? (ad.add j) = some u := by
  intro ad had j u hu
  obtain ⟨hj, rfl⟩ := cellsOf_at ts j u hu
  rw [hao (by omega)] at had
  cases had
  rw [addr_add]
  have e : ts.getD j ByteArray.empty = ss.getD (k + j) ByteArray.empty := by
    rw [hts]; simp [List.getD_eq_getElem?_getD, List.getElem?_drop, hj]
  have hlt : k + j < ss.length := by
    have : ts.length ≤ ss.length - k := by rw [hts]; simp; omega
    omega
  rw [e]
  simp [World.cell?, h, cellsOf, List.getD_eq_getElem?_getD, hlt]

theorem heap_keep {w w' : World} {row : Option Nat} {B : Nat} {o : Obj} (h : w.heap[B]? = some o) (hg : w.grownBy w' row) (hne : some B ≠ row) : w'.heap[B]? = some o :=
  (hg.block B (lt_of_heap h) hne).trans h

theorem one_str (s : ByteArray) : ∀ u ∈ [Value.string s], u.oneCell' = true := by
  intro u hu; simp at hu; subst hu; rfl

theorem drop_self (ss : List ByteArray) (k : Nat) : ss.drop k = (ss.drop k).take (ss.drop k).length := List.take_length.symm

/-- The row that the three appends have filled. -/
theorem row_of_full {w : World} {base g n cap : Nat} {ts : List ByteArray} (h : w.ownsRow base 9 1 (.slice (some ⟨g, 0, none⟩) n cap) n (cellsOf ts)) (hn : n = cap) :
    w.heap[g]? = some (.cells (cellsOf ts).toArray 9 (0, 0)) := by
  obtain ⟨hl, (⟨h, _⟩ | ⟨g', cap', cur, e, _, hg, _, _, hs, ht⟩)⟩ := h
  · cases h
  · cases e
    rw [hg, ← ht, List.take_of_length_le (by simp [hs, hn])]

theorem below_heap {w w' : World} {L g : Nat} {o : Obj} (hb : Below L w w') (hg : g < L) (h : w.heap[g]? = some o) : w'.heap[g]? = some o := (hb.block g hg).trans h

theorem isMove_len {ss : List ByteArray} (h : isMoveB ss = true) : ss.length = 5 ∧ (ss.getD 1 ByteArray.empty).toList = [102, 114, 111, 109] ∧ (ss.getD 3 ByteArray.empty).toList = [116, 111] := by
  simp only [isMoveB, Bool.and_eq_true, beq_iff_eq] at h
  exact ⟨h.1.1, h.1.2, h.2⟩

/-- What one parse has made: the error's value and the line's three fields. -/
def Parsed (ss : List ByteArray) (n f p : ByteArray) (er : Value) (n' f' p' : ByteArray) : Prop :=
  (isMoveB ss = true ∧ er = .nilIface ∧ n' = ss.getD 0 ByteArray.empty ∧ f' = ss.getD 2 ByteArray.empty ∧ p' = ss.getD 4 ByteArray.empty) ∨
  (isMoveB ss = false ∧ (∃ x, er = .iface 40 x) ∧ n' = n ∧ f' = f ∧ p' = p)

set_option maxHeartbeats 400000 in
theorem parse_any (g len cap : Nat) (ss : List ByteArray) (t n f p : ByteArray) (L : Nat) (w : World) (hl : ss.length = len)
    (hL : w.heap[L]? = some (lineObj t n f p)) (hg : g < L) (hrow : w.heap[g]? = some (.cells (cellsOf ss).toArray 9 (0, 0))) :
    Calls Try.prog 11 #[.pointer (some ⟨L, 0, none⟩), .slice (some ⟨g, 0, none⟩) len cap] w fun e w' => ∃ er n' f' p', e = .returned er ∧ Parsed ss n f p er n' f' p' ∧ w'.heap[L]? = some (lineObj t n' f' p') ∧ Below L w w' := by
  have hs := strs_of_row hrow
  cases hm : isMoveB ss
  · refine (parse_no (some ⟨g, 0, none⟩) len cap ss t n f p L w hl hL (lt_of_heap hL) hs hm).mono ?_
    rintro e w' ⟨⟨x, rfl⟩, h1, h2⟩
    exact ⟨_, n, f, p, rfl, .inr ⟨hm, ⟨x, rfl⟩, rfl, rfl, rfl⟩, h1, h2⟩
  · obtain ⟨h5, e1, e3⟩ := isMove_len hm
    have c : ∀ i, i < 5 → w.cell? ⟨g, 0 + i, none⟩ = some (.string (ss.getD i ByteArray.empty)) := fun i hi => by
      obtain ⟨b, o, e, hc⟩ := hs i (by omega)
      cases e
      exact hc
    have h5' : len = 5 := by omega
    subst h5'
    refine (parse_yes g 0 cap _ _ _ _ _ t n f p L w hL hg (c 0 (by omega)) (c 1 (by omega)) (c 2 (by omega)) (c 3 (by omega)) (c 4 (by omega)) e1 e3).mono ?_
    rintro e w' ⟨rfl, h1, h2⟩
    exact ⟨_, _, _, _, rfl, .inl ⟨hm, rfl, rfl, rfl, rfl⟩, h1, h2⟩

set_option maxHeartbeats 400000 in
theorem ZZparse_any (g len cap : Nat) (ss : List ByteArray) (t n f p : ByteArray) (L : Nat) (w : World) (hl : ss.length = len)
    (hL : w.heap[L]? = some (lineObj t n f p)) (hg : g < L) (hrow : w.heap[g]? = some (.cells (cellsOf ss).toArray 9 (0, 0))) :
    Calls Try.prog 8 #[.pointer (some ⟨L, 0, none⟩), .slice (some ⟨g, 0, none⟩) len cap] w fun e w' => ∃ er n' f' p', e = .returned er ∧ Parsed ss n f p er n' f' p' ∧ w'.heap[L]? = some (lineObj t n' f' p') ∧ Below L w w' := by
  have H : Hid (Calls Try.prog 11 #[.pointer (some ⟨L, 0, none⟩), .slice (some ⟨g, 0, none⟩) len cap] w fun e w' => ∃ er n' f' p', e = .returned er ∧ Parsed ss n f p er n' f' p' ∧ w'.heap[L]? = some (lineObj t n' f' p') ∧ Below L w w') := parse_any g len cap ss t n f p L w hl hL hg hrow
  clear hL hrow
  go_enter Try.func8, Try.ntmps8
  go_wp2_with fail
  refine H.out.mono ?_
  rintro e w' ⟨er, n', f', p', rfl, h1, h2, h3⟩
  have H2 : Hid (w'.heap[L]? = some (lineObj t n' f' p')) := h2
  clear h2
  go_wp2
  go_ret
  exact ⟨er, n', f', p', rfl, h1, H2.out, h3⟩

theorem fields_row (t n f o : ByteArray) (L : Nat) (w : World) (h : w.heap[L]? = some (lineObj t n f o)) :
    Calls Try.prog 9 #[.pointer (some ⟨L, 0, none⟩)] w fun e w' => e = .returned (.tuple #[.string t, .string n, .string f, .string o]) ∧ ∃ k, w' = w.drewN k :=
  fields_any t n f o L w (by simp [World.cell?, h, lineObj]) (by simp [World.cell?, h, lineObj]) (by simp [World.cell?, h, lineObj]) (by simp [World.cell?, h, lineObj])

theorem not_both {ss : List ByteArray} {s : ByteArray} {k : Nat} (h : isMoveB ss = true) (h2 : isMoveB (ss.take k ++ s :: ss.drop k) = true) : False := by
  have h1 := (isMove_len h).1
  have h3 := (isMove_len h2).1
  simp at h3
  omega

theorem cellsOf_ins (a b : List ByteArray) (s : ByteArray) : cellsOf a ++ [Value.string s] ++ cellsOf b = cellsOf (a ++ s :: b) := by simp [cellsOf]

/-- What the rest of the call leans on: old memory is as it was; the two rows lie at blocks 'B' and 'N'. -/
structure St (w0 w : World) (N : Nat) (ss ts : List ByteArray) : Prop where
  below : Below w0.heap.size w0 w
  rowA : w.heap[w0.heap.size]? = some (.cells (cellsOf ss).toArray 9 (0, 0))
  rowI : w.heap[N]? = some (.cells (cellsOf ts).toArray 9 (0, 0))
  ord : w0.heap.size < N

theorem St.alloc {w0 w : World} {N : Nat} {ss ts : List ByteArray} (h : St w0 w N ss ts) (o : Obj) : St w0 (w.alloc o) N ss ts :=
  ⟨h.below.alloc h.below.size _, (Below.heap_alloc _ _ _ (lt_of_heap h.rowA)).trans h.rowA, (Below.heap_alloc _ _ _ (lt_of_heap h.rowI)).trans h.rowI, h.ord⟩

theorem St.later {w0 w w' : World} {N L : Nat} {ss ts : List ByteArray} (h : St w0 w N ss ts) (hb : Below L w w') (hL : N < L) : St w0 w' N ss ts :=
  ⟨h.below.trans (hb.mono (by have := h.ord; omega)), below_heap hb (by have := h.ord; omega) h.rowA, below_heap hb hL h.rowI, h.ord⟩

theorem St.drewN {w0 w : World} {N : Nat} {ss ts : List ByteArray} (h : St w0 w N ss ts) (k : Nat) : St w0 (w.drewN k) N ss ts :=
  ⟨below_drewN h.below k, h.rowA, h.rowI, h.ord⟩

theorem line_alloc (w : World) (o : Obj) : (w.alloc o).heap[w.heap.size]? = some o := heap_alloc_new w o

theorem isMove_is (b : Bool) (g len cap : Nat) (ss : List ByteArray) (w : World) (hl : ss.length = len) (hrow : w.heap[g]? = some (.cells (cellsOf ss).toArray 9 (0, 0))) (hb : isMoveB ss = b) :
    Calls Try.prog 10 #[.slice (some ⟨g, 0, none⟩) len cap] w fun e w' => e = .returned (.bool b) ∧ w' = w := by
  have h := isMove_any (some ⟨g, 0, none⟩) len cap ss w hl (strs_of_row hrow)
  rw [hb] at h
  exact h

theorem cell_of_row {w : World} {g : Nat} {ss : List ByteArray} (h : w.heap[g]? = some (.cells (cellsOf ss).toArray 9 (0, 0))) (i : Nat) (hi : i < ss.length) {s : ByteArray} (hs : s = ss.getD i ByteArray.empty) :
    w.cell? ⟨g, i, none⟩ = some (.string s) := by
  subst hs
  simp [World.cell?, h, cellsOf, List.getD_eq_getElem?_getD, hi]

end Go.Proofs.Qxb6608744a
