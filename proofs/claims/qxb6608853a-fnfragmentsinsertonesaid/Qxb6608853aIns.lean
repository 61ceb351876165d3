import Derived.Test.Qxb6608853aChk
namespace Go.Proofs.Qxb6608853a
open Go.RowKit Go.Maps

/-- The definitions of 'after': the new fragment is put in at place p (b: it is in already). -/
def ads (isf : Nat → Bool) (bs : Nat → Nat) (nm : Nat → ByteArray) (N : Nat) (x : ByteArray) (p i : Nat) (b : Bool) : List (Bool × Nat × ByteArray) :=
  if b then dsOf isf bs nm 0 p ++ (true, N, x) :: dsOf isf bs nm p (i - p) else dsOf isf bs nm 0 i

theorem ads_put (isf : Nat → Bool) (bs : Nat → Nat) (nm : Nat → ByteArray) (N : Nat) (x : ByteArray) (p : Nat) : ads isf bs nm N x p p false ++ [(true, N, x)] = ads isf bs nm N x p p true := by
  simp [ads, dsOf]

theorem ads_length (isf : Nat → Bool) (bs : Nat → Nat) (nm : Nat → ByteArray) (N : Nat) (x : ByteArray) (p i : Nat) (b : Bool) (h : b = true → p ≤ i) : (ads isf bs nm N x p i b).length ≤ i + 1 := by
  unfold ads
  split
  · rename_i hb
    have := h hb
    simp [dsOf_length]; omega
  · simp [dsOf_length]

theorem ads_step (isf : Nat → Bool) (bs : Nat → Nat) (nm : Nat → ByteArray) (N : Nat) (x : ByteArray) (p i K : Nat) : ads isf (upd bs i K) nm N x p (i + 1) (decide (p < i + 1)) = ads isf bs nm N x p i (decide (p ≤ i)) ++ [(isf i, K, nm i)] := by
  unfold ads
  by_cases h : p ≤ i
  · rw [if_pos (by simp; omega), if_pos (by simp; omega), show i + 1 - p = i - p + 1 by omega, dsOf_upd_snoc isf bs nm i K p (i - p) (by omega), dsOf_upd isf bs nm i K 0 p (by omega)]
    simp
  · rw [if_neg (by simp; omega), if_neg (by simp; omega), dsOf_upd_snoc isf bs nm i K 0 i (by omega)]

theorem ads_mem (isf : Nat → Bool) (bs : Nat → Nat) (nm : Nat → ByteArray) (N : Nat) (x : ByteArray) (p i : Nat) (q : Bool × Nat × ByteArray) (hp : p ≤ i) : q ∈ ads isf bs nm N x p i true → q = (true, N, x) ∨ q ∈ dsOf isf bs nm 0 i := by
  intro h
  have e : dsOf isf bs nm 0 i = dsOf isf bs nm 0 p ++ dsOf isf bs nm p (i - p) := by
    have := dsOf_append isf bs nm 0 p (i - p)
    rwa [show p + (i - p) = i by omega, Nat.zero_add] at this
  simp only [ads, if_true, List.mem_append, List.mem_cons] at h
  rw [e, List.mem_append]
  rcases h with h | h | h
  · exact .inr (.inl h)
  · exact .inl h
  · exact .inr (.inr h)

theorem Docs.stepI {B : Nat} {w : World} {A D i p N K : Nat} {x : ByteArray} {va vf : Value} {isf : Nat → Bool} {bs : Nat → Nat} {nm : Nat → ByteArray}
    (h : Docs B w [(A, va, dsOf isf bs nm 0 i ++ [(isf i, K, nm i)]), (D, vf, ads isf bs nm N x p i (decide (p ≤ i)) ++ [(isf i, K, nm i)])]) :
    Docs B w [(A, va, dsOf isf (upd bs i K) nm 0 (i + 1)), (D, vf, ads isf (upd bs i K) nm N x p (i + 1) (decide (p < i + 1)))] := by
  rw [ads_step, dsOf_upd_snoc isf bs nm i K 0 i (by omega)]
  exact h

/-- The new fragment lies in memory. -/
def Nf (wr : World) (N : Nat) (x : ByteArray) (l : Int) : Prop := wr.heap[N]? = some (fragObj x l)

theorem Nf.alloc {wr : World} {N : Nat} {x : ByteArray} {l : Int} (h : Nf wr N x l) (o : Obj) : Nf (wr.alloc o) N x l := heap_old h
theorem Nf.later {wr w' : World} {N : Nat} {x : ByteArray} {l : Int} (h : Nf wr N x l) (hb : Below wr.heap.size wr w') : Nf w' N x l := (hb.block _ (lt_of_heap h)).trans h
theorem Nf.turned {B : Nat} {wr w' : World} {N D : Nat} {x : ByteArray} {l : Int} {v : Value} {ds : List Value} (h : Nf wr N x l) (hd : DocIs B wr D v ds) (ht : Turned wr w' D v) : Nf w' N x l := ht.keeps hd h (by decide) (by decide)
theorem Nf.stepFrag {w wr : World} {F N : Nat} {nm : Nat → ByteArray} {isf : Nat → Bool} {n i : Nat} {bs : Nat → Nat} {x : ByteArray} {l : Int} (h : Nf wr N x l) (hm : Mem w wr F nm isf n i bs) (u : Value) (o : Obj) : Nf ((wr.setCell ⟨F, i, none⟩ u).alloc o) N x l := by
  obtain ⟨cur, h1, _⟩ := hm.frow
  have hne : N ≠ F := fun e => by
    have h' := h
    unfold Nf at h'
    rw [e, h1] at h'
    simp [fragObj] at h'
  refine Nf.alloc ?_ o
  unfold Nf
  rw [Below.heap_setCell _ _ _ _ (show N ≠ (⟨F, i, none⟩ : Addr).block from hne)]
  exact h
theorem Nf.made {w : World} {N : Nat} {x : ByteArray} {l : Int} (h : N = w.heap.size) : Nf (w.alloc (fragObj x l)) N x l := heap_new h

/-- What the maps of before and after hold. -/
theorem ents_all (isf : Nat → Bool) (bs : Nat → Nat) (nm : Nat → ByteArray) {p n : Nat} (h : p ≤ n) : ents (dsOf isf bs nm 0 n) = ents (dsOf isf bs nm 0 p) ++ ents (dsOf isf bs nm p (n - p)) := by
  have := dsOf_append isf bs nm 0 p (n - p)
  rw [show p + (n - p) = n by omega, Nat.zero_add] at this
  rw [this, ents_append]
theorem ents_ads (isf : Nat → Bool) (bs : Nat → Nat) (nm : Nat → ByteArray) (N : Nat) (x : ByteArray) (p n : Nat) : ents (ads isf bs nm N x p n true) = ents (dsOf isf bs nm 0 p) ++ (x.data.toList, N) :: ents (dsOf isf bs nm p (n - p)) := by
  simp only [ads, if_true]
  rw [ents_append, ents_cons]
  simp

theorem ins_other {isf : Nat → Bool} {bs : Nat → Nat} {nm : Nat → ByteArray} {N : Nat} {x s : ByteArray} {p n : Nat} (h : p ≤ n) (hs : s ≠ x) : lastB (ents (ads isf bs nm N x p n true)) s.data.toList = lastB (ents (dsOf isf bs nm 0 n)) s.data.toList := by
  rw [ents_ads, ents_all isf bs nm h, lastB_append, lastB_append, lastB_cons, if_neg (fun e => hs (bytes_inj e).symm)]
  cases lastB (ents (dsOf isf bs nm p (n - p))) s.data.toList <;> simp

theorem ins_later {isf : Nat → Bool} {bs : Nat → Nat} {nm : Nat → ByteArray} {N : Nat} {x : ByteArray} {p n j : Nat} (h : p ≤ n) (hj : p ≤ j) (hjn : j < n) (hf : isf j = true) (hx : nm j = x) : ∃ b, lastB (ents (ads isf bs nm N x p n true)) x.data.toList = some b ∧ lastB (ents (dsOf isf bs nm 0 n)) x.data.toList = some b := by
  obtain ⟨k, h1, h2, ⟨h3, h3'⟩, h4⟩ := last_place (fun t => isf t = true ∧ (nm t).data.toList = x.data.toList) j ⟨hf, by rw [hx]⟩ n hjn
  have e := lastB_at isf bs nm x.data.toList p k (by omega) h3 h3' (n - p) (by omega) (fun t a b c d => h4 t a (by omega) ⟨c, d⟩)
  refine ⟨bs k, ?_, ?_⟩
  · rw [ents_ads, lastB_append, lastB_cons, e]; rfl
  · rw [ents_all isf bs nm h, lastB_append, e]; rfl

theorem ins_new {isf : Nat → Bool} {bs : Nat → Nat} {nm : Nat → ByteArray} {N : Nat} {x : ByteArray} {p n : Nat} (hno : ∀ t, p ≤ t → t < n → isf t = true → nm t ≠ x) : lastB (ents (ads isf bs nm N x p n true)) x.data.toList = some N := by
  have e := lastB_no isf bs nm x.data.toList p (n - p) (fun t a b c d => hno t a (by omega) c (bytes_inj d))
  rw [ents_ads, lastB_append, lastB_cons, e, if_pos rfl]; rfl

theorem ins_count {isf : Nat → Bool} {bs : Nat → Nat} {nm : Nat → ByteArray} {N : Nat} {x : ByteArray} {p n : Nat} (h : p ≤ n) : dn ((ents (ads isf bs nm N x p n true)).map Prod.fst) = dn ((ents (dsOf isf bs nm 0 n)).map Prod.fst) + if lastB (ents (dsOf isf bs nm 0 n)) x.data.toList = none then 1 else 0 := by
  have e := lastB_none x.data.toList (ents (dsOf isf bs nm 0 n))
  rw [ents_ads, List.map_append, List.map_cons, dn_insert, ents_all isf bs nm h, List.map_append]
  rw [ents_all isf bs nm h, List.map_append] at e
  by_cases hm : x.data.toList ∈ List.map Prod.fst (ents (dsOf isf bs nm 0 p)) ++ List.map Prod.fst (ents (dsOf isf bs nm p (n - p)))
  · rw [if_pos hm, if_neg (fun hh => (e.1 hh) hm)]
  · rw [if_neg hm, if_pos (e.2 hm)]

/-- What the check loop stands on. -/
structure Chk2 (w wr : World) (F : Nat) (nm : Nat → ByteArray) (isf : Nat → Bool) (n : Nat) (bs : Nat → Nat) (N : Nat) (x : ByteArray) (p Ma Mb : Nat) : Prop where
  mem : Mem w wr F nm isf n n bs
  ma : MapHas wr Ma (ents (dsOf isf bs nm 0 n))
  mb : MapHas wr Mb (ents (ads isf bs nm N x p n true))

theorem Chk2.drewN {w wr : World} {F : Nat} {nm : Nat → ByteArray} {isf : Nat → Bool} {n : Nat} {bs : Nat → Nat} {N : Nat} {x : ByteArray} {p Ma Mb : Nat} (h : Chk2 w wr F nm isf n bs N x p Ma Mb) (q : Nat) : Chk2 w (wr.drewN q) F nm isf n bs N x p Ma Mb :=
  ⟨h.mem.drewN q, h.ma.later rfl, h.mb.later rfl⟩

theorem ads_names {w wr : World} {F N : Nat} {nm : Nat → ByteArray} {isf : Nat → Bool} {n : Nat} {bs : Nat → Nat} {x : ByteArray} {l : Int} {p : Nat} (hM : Mem w wr F nm isf n n bs) (hN : Nf wr N x l) (hs : ∀ t, t < n → (nm t).size ≤ maxLen) (hx : x.size ≤ maxLen) (hp : p ≤ n) :
    ∀ b s, (true, b, s) ∈ ads isf bs nm N x p n true → wr.cell? ⟨b, 0, none⟩ = some (.string s) ∧ s.size ≤ maxLen := by
  intro b s hm
  rcases ads_mem isf bs nm N x p n _ hp hm with e | h
  · simp only [Prod.mk.injEq, true_and] at e
    obtain ⟨rfl, rfl⟩ := e
    exact ⟨(frag_cells hN).1, hx⟩
  · exact hM.names hs (by omega) b s h

theorem str_ne {s x : ByteArray} (h : ¬ s = x) : (s.toList == x.toList) = false := by
  rw [ByteArray.toList_eq, ByteArray.toList_eq]
  simp only [beq_eq_false_iff_ne, ne_eq]
  exact fun e => h (bytes_inj e)

/-- No fragment of that name from p up to j. -/
def NoneIn (isf : Nat → Bool) (nm : Nat → ByteArray) (p j : Nat) (x : ByteArray) : Prop := ∀ t, p ≤ t → t < j → isf t = true → nm t ≠ x

theorem NoneIn.step {isf : Nat → Bool} {nm : Nat → ByteArray} {p j : Nat} {x : ByteArray} (h : NoneIn isf nm p j x) (hj : isf j = true → nm j ≠ x) : NoneIn isf nm p (j + 1) x := by
  intro t a b c
  by_cases e : t = j
  · subst e; exact hj c
  · exact h t a (by omega) c

/-- What the second loop finds: a later fragment of that name, or none. -/
def Later (isf : Nat → Bool) (nm : Nat → ByteArray) (p n : Nat) (x : ByteArray) (v : Value) : Prop :=
  (v = .bool true ∧ ∃ j, p ≤ j ∧ j < n ∧ isf j = true ∧ nm j = x) ∨ (v = .bool false ∧ NoneIn isf nm p n x)

end Go.Proofs.Qxb6608853a
