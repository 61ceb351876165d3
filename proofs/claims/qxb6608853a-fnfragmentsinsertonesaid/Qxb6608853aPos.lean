import Derived.Test.Qxb6608853aStep
namespace Go.Proofs.Qxb6608853a
open Go.RowKit Go.Maps

theorem bytes_inj {a b : ByteArray} (h : a.data.toList = b.data.toList) : a = b := by
  cases a; cases b; simp only [ByteArray.mk.injEq]; exact Array.toList_inj.1 h

theorem last_place (p : Nat → Prop) (i : Nat) (hi : p i) : ∀ n, i < n → ∃ k, i ≤ k ∧ k < n ∧ p k ∧ ∀ t, k < t → t < n → ¬ p t
  | 0, h => by omega
  | n + 1, h => by
    rcases Classical.em (p n) with hp | hp
    · exact ⟨n, by omega, by omega, hp, fun t _ _ => by omega⟩
    · have : i ≠ n := fun e => hp (e ▸ hi)
      obtain ⟨k, h1, h2, h3, h4⟩ := last_place p i hi n (by omega)
      refine ⟨k, h1, by omega, h3, fun t h5 h6 => ?_⟩
      by_cases e : t = n
      · subst e; exact hp
      · exact h4 t h5 (by omega)

theorem lastB_no (isf : Nat → Bool) (bs : Nat → Nat) (nm : Nat → ByteArray) (s : List UInt8) (j : Nat) : ∀ m, (∀ t, j ≤ t → t < j + m → isf t = true → (nm t).data.toList ≠ s) → lastB (ents (dsOf isf bs nm j m)) s = none
  | 0, _ => by simp [dsOf, ents, lastB]
  | m + 1, h => by
    rw [dsOf_snoc, ents_snoc]
    have ih := lastB_no isf bs nm s j m (fun t h1 h2 => h t h1 (by omega))
    cases hf : isf (j + m)
    · simpa using ih
    · have := h (j + m) (by omega) (by omega) hf
      rw [if_pos rfl, lastB_snoc, if_neg this]; exact ih

theorem lastB_at (isf : Nat → Bool) (bs : Nat → Nat) (nm : Nat → ByteArray) (s : List UInt8) (j k : Nat) (hk : j ≤ k) (pk : isf k = true) (hs : (nm k).data.toList = s) : ∀ m, k < j + m → (∀ t, k < t → t < j + m → isf t = true → (nm t).data.toList ≠ s) → lastB (ents (dsOf isf bs nm j m)) s = some (bs k)
  | 0, h, _ => by omega
  | m + 1, h, hno => by
    rw [dsOf_snoc, ents_snoc]
    by_cases e : j + m = k
    · rw [e, pk, if_pos rfl, lastB_snoc, if_pos hs]
    · have ih := lastB_at isf bs nm s j k hk pk hs m (by omega) (fun t h1 h2 => hno t h1 (by omega))
      cases hf : isf (j + m)
      · simpa using ih
      · have := hno (j + m) (by omega) (by omega) hf
        rw [if_pos rfl, lastB_snoc, if_neg this]; exact ih

theorem dsOf_cons (isf : Nat → Bool) (bs : Nat → Nat) (nm : Nat → ByteArray) (j m : Nat) : dsOf isf bs nm j (m + 1) = (isf j, bs j, nm j) :: dsOf isf bs nm (j + 1) m := by
  simp [dsOf, List.range'_succ]

theorem dsOf_append (isf : Nat → Bool) (bs : Nat → Nat) (nm : Nat → ByteArray) (j a b : Nat) : dsOf isf bs nm j (a + b) = dsOf isf bs nm j a ++ dsOf isf bs nm (j + a) b := by
  simp [dsOf, ← List.map_append, List.range'_append_1]

theorem ents_append (a b : List (Bool × Nat × ByteArray)) : ents (a ++ b) = ents a ++ ents b := by simp [ents]

theorem ents_cons (f : Bool) (n : Nat) (s : ByteArray) (a : List (Bool × Nat × ByteArray)) : ents ((f, n, s) :: a) = (if f then [(s.data.toList, n)] else []) ++ ents a := by
  cases f <;> simp [ents]

/-- The names of the fragments from place j on, m places. -/
def nms (isf : Nat → Bool) (bs : Nat → Nat) (nm : Nat → ByteArray) (j m : Nat) : List (List UInt8) := (ents (dsOf isf bs nm j m)).map Prod.fst

theorem nms_zero (isf : Nat → Bool) (bs : Nat → Nat) (nm : Nat → ByteArray) (j : Nat) : nms isf bs nm j 0 = [] := by simp [nms, dsOf, ents]

theorem nms_cons (isf : Nat → Bool) (bs : Nat → Nat) (nm : Nat → ByteArray) (j m : Nat) : nms isf bs nm j (m + 1) = (if isf j then [(nm j).data.toList] else []) ++ nms isf bs nm (j + 1) m := by
  unfold nms
  rw [dsOf_cons, ents_cons]
  cases isf j <;> simp

theorem nms_append (isf : Nat → Bool) (bs : Nat → Nat) (nm : Nat → ByteArray) (j a b : Nat) : nms isf bs nm j (a + b) = nms isf bs nm j a ++ nms isf bs nm (j + a) b := by
  unfold nms
  rw [dsOf_append, ents_append, List.map_append]

theorem ents_length (a : List (Bool × Nat × ByteArray)) : (ents a).length ≤ a.length := by
  simp [ents]; exact List.length_filter_le _ _

theorem nms_length (isf : Nat → Bool) (bs : Nat → Nat) (nm : Nat → ByteArray) (j m : Nat) : dn (nms isf bs nm j m) ≤ m := by
  refine Nat.le_trans (dn_le _) ?_
  unfold nms
  rw [List.length_map]
  exact Nat.le_trans (ents_length _) (by rw [dsOf_length]; exact Nat.le_refl _)

/-- The last place of a fragment's name, and what the three maps hold for it. -/
theorem place {isf : Nat → Bool} {bs : Nat → Nat} {nm : Nat → ByteArray} {n c i : Nat} (hi : i < n) (hc : c ≤ n) (hf : isf i = true) : ∃ k, i ≤ k ∧ k < n ∧ isf k = true ∧ nm k = nm i ∧
    lastB (ents (dsOf isf bs nm 0 n)) (nm i).data.toList = some (bs k) ∧
    ((c ≤ k ∧ lastB (ents (dsOf isf bs nm c (n - c))) (nm i).data.toList = some (bs k)) ∨ (k < c ∧ lastB (ents (dsOf isf bs nm c (n - c))) (nm i).data.toList = none ∧ lastB (ents (dsOf isf bs nm 0 c)) (nm i).data.toList = some (bs k))) ∧
    ((nm i).data.toList ∈ nms isf bs nm (i + 1) (n - (i + 1)) ↔ k ≠ i) := by
  obtain ⟨k, h1, h2, ⟨h3, h3'⟩, h4⟩ := last_place (fun t => isf t = true ∧ (nm t).data.toList = (nm i).data.toList) i ⟨hf, rfl⟩ n hi
  have hno : ∀ t, k < t → t < n → isf t = true → (nm t).data.toList ≠ (nm i).data.toList := fun t a b c d => h4 t a b ⟨c, d⟩
  refine ⟨k, h1, h2, h3, bytes_inj h3', lastB_at isf bs nm _ 0 k (Nat.zero_le _) h3 h3' n (by omega) (fun t a b => hno t a (by omega)), ?_, ?_⟩
  · by_cases hck : c ≤ k
    · exact .inl ⟨hck, lastB_at isf bs nm _ c k hck h3 h3' _ (by omega) (fun t a b => hno t a (by omega))⟩
    · exact .inr ⟨by omega, lastB_no isf bs nm _ c _ (fun t a b => hno t (by omega) (by omega)), lastB_at isf bs nm _ 0 k (Nat.zero_le _) h3 h3' _ (by omega) (fun t a b => hno t a (by omega))⟩
  · have e := lastB_isSome (ents (dsOf isf bs nm (i + 1) (n - (i + 1)))) (nm i).data.toList
    unfold nms
    rw [← e]
    by_cases hk : k = i
    · subst hk
      rw [lastB_no isf bs nm _ _ _ (fun t a b => hno t (by omega) (by omega))]; simp
    · rw [lastB_at isf bs nm _ (i + 1) k (by omega) h3 h3' _ (by omega) (fun t a b => hno t a (by omega))]; simp [hk]

/-- The names from place i on, but no sooner than the cut. -/
def rest (isf : Nat → Bool) (bs : Nat → Nat) (nm : Nat → ByteArray) (c n i : Nat) : List (List UInt8) := nms isf bs nm (max i c) (n - max i c)

theorem rest_end (isf : Nat → Bool) (bs : Nat → Nat) (nm : Nat → ByteArray) (c n : Nat) : rest isf bs nm c n n = [] := by
  unfold rest; rw [show n - max n c = 0 by omega, nms_zero]

theorem rest_start (isf : Nat → Bool) (bs : Nat → Nat) (nm : Nat → ByteArray) (c n : Nat) : rest isf bs nm c n 0 = nms isf bs nm c (n - c) := by
  unfold rest; rw [show max 0 c = c by omega]

theorem rest_low {isf : Nat → Bool} {bs : Nat → Nat} {nm : Nat → ByteArray} {c n i : Nat} (h : i < c) : rest isf bs nm c n (i + 1) = rest isf bs nm c n i := by
  unfold rest; rw [show max (i + 1) c = max i c by omega]

theorem rest_dir {isf : Nat → Bool} {bs : Nat → Nat} {nm : Nat → ByteArray} {c n i : Nat} (hi : i < n) (hf : isf i = false) : rest isf bs nm c n (i + 1) = rest isf bs nm c n i := by
  by_cases h : i < c
  · exact rest_low h
  · unfold rest
    rw [show max (i + 1) c = i + 1 by omega, show max i c = i by omega, show n - i = n - (i + 1) + 1 by omega, nms_cons, hf]
    simp

theorem rest_frag {isf : Nat → Bool} {bs : Nat → Nat} {nm : Nat → ByteArray} {c n i : Nat} (hi : i < n) (hf : isf i = true) (h : ¬ i < c) : rest isf bs nm c n i = (nm i).data.toList :: rest isf bs nm c n (i + 1) ∧ rest isf bs nm c n (i + 1) = nms isf bs nm (i + 1) (n - (i + 1)) := by
  unfold rest
  rw [show max (i + 1) c = i + 1 by omega, show max i c = i by omega, show n - i = n - (i + 1) + 1 by omega, nms_cons, hf]
  simp

theorem lc_le (l : List (List UInt8)) : ∀ r, lc l r ≤ dn r
  | [] => by simp [lc, dn]
  | x :: r => by
    have := lc_le l r
    unfold lc dn
    by_cases h1 : x ∈ r <;> by_cases h2 : x ∈ l <;> simp [h1, h2] <;> omega

/-- The count at the end. -/
theorem names_cut {isf : Nat → Bool} {bs : Nat → Nat} {nm : Nat → ByteArray} {c n : Nat} (hc : c ≤ n) : dn (nms isf bs nm 0 n) + lc (nms isf bs nm 0 c) (nms isf bs nm c (n - c)) = dn (nms isf bs nm 0 c) + dn (nms isf bs nm c (n - c)) := by
  rw [← dn_append, show nms isf bs nm 0 n = nms isf bs nm 0 (c + (n - c)) by rw [show c + (n - c) = n by omega], nms_append, Nat.zero_add]

/-- What a round of the check leaves of the count. -/
theorem count_same {isf : Nat → Bool} {bs : Nat → Nat} {nm : Nat → ByteArray} {c n i k : Nat} {El : List (List UInt8)} (hi : i < n) (hf : isf i = true) (hk : (nm i).data.toList ∈ nms isf bs nm (i + 1) (n - (i + 1)) ↔ k ≠ i) (h : i < c ∨ k ≠ i ∨ (nm i).data.toList ∉ El) : lc El (rest isf bs nm c n i) = lc El (rest isf bs nm c n (i + 1)) := by
  by_cases hc : i < c
  · rw [rest_low hc]
  · obtain ⟨e1, e2⟩ := rest_frag (bs := bs) (nm := nm) hi hf hc
    rw [e1, lc, if_neg, Nat.zero_add]
    rintro ⟨a, b⟩
    rcases h with h | h | h
    · exact hc h
    · exact b (e2 ▸ hk.2 h)
    · exact h a

theorem count_one {isf : Nat → Bool} {bs : Nat → Nat} {nm : Nat → ByteArray} {c n i k : Nat} {El : List (List UInt8)} (hi : i < n) (hf : isf i = true) (hk : (nm i).data.toList ∈ nms isf bs nm (i + 1) (n - (i + 1)) ↔ k ≠ i) (hc : ¬ i < c) (h1 : k = i) (h2 : (nm i).data.toList ∈ El) : lc El (rest isf bs nm c n i) = 1 + lc El (rest isf bs nm c n (i + 1)) := by
  obtain ⟨e1, e2⟩ := rest_frag (bs := bs) (nm := nm) hi hf hc
  rw [e1, lc, if_pos ⟨h2, fun hm => hk.1 (e2 ▸ hm) h1⟩]

end Go.Proofs.Qxb6608853a
