namespace Go.Proofs.Qxb6608853a

/-! ### The last entry of a name -/

/-- The number beside the last entry of that name. -/
def lastB (l : List (List UInt8 × Nat)) (s : List UInt8) : Option Nat := l.foldl (fun r p => if p.1 = s then some p.2 else r) none

theorem lastB_snoc (l : List (List UInt8 × Nat)) (p : List UInt8 × Nat) (s : List UInt8) : lastB (l ++ [p]) s = if p.1 = s then some p.2 else lastB l s := by
  simp [lastB, List.foldl_append]

theorem lastB_fold (s : List UInt8) : ∀ (r : List (List UInt8 × Nat)) (o : Option Nat), r.foldl (fun r p => if p.1 = s then some p.2 else r) o = (lastB r s).or o
  | [], o => by simp [lastB]
  | p :: r, o => by
    have e : lastB (p :: r) s = r.foldl (fun r p => if p.1 = s then some p.2 else r) (if p.1 = s then some p.2 else none) := rfl
    rw [List.foldl_cons, lastB_fold s r, e, lastB_fold s r]
    split
    · cases lastB r s <;> simp
    · cases lastB r s <;> simp

theorem lastB_append (l r : List (List UInt8 × Nat)) (s : List UInt8) : lastB (l ++ r) s = (lastB r s).or (lastB l s) := by
  rw [lastB, List.foldl_append, lastB_fold]; rfl

theorem lastB_cons (p : List UInt8 × Nat) (r : List (List UInt8 × Nat)) (s : List UInt8) : lastB (p :: r) s = (lastB r s).or (if p.1 = s then some p.2 else none) := by
  have := lastB_append [p] r s
  rw [show [p] ++ r = p :: r from rfl] at this
  rw [this]; rfl

theorem lastB_none (s : List UInt8) : ∀ (l : List (List UInt8 × Nat)), lastB l s = none ↔ s ∉ l.map Prod.fst
  | [] => by simp [lastB]
  | p :: r => by
    rw [lastB_cons, List.map_cons, List.mem_cons]
    have ih := lastB_none s r
    cases h : lastB r s with
    | none =>
      have := ih.1 h
      by_cases e : p.1 = s
      · simp [e]
      · simp [e, this, Ne.symm e]
    | some b =>
      have : s ∈ r.map Prod.fst := by
        rcases Classical.em (s ∈ r.map Prod.fst) with hm | hm
        · exact hm
        · rw [ih.2 hm] at h; cases h
      simp [this]

theorem lastB_isSome (l : List (List UInt8 × Nat)) (s : List UInt8) : (lastB l s).isSome = true ↔ s ∈ l.map Prod.fst := by
  have := lastB_none s l
  cases h : lastB l s with
  | none => simp [this.1 h]
  | some b =>
    have : s ∈ l.map Prod.fst := by
      rcases Classical.em (s ∈ l.map Prod.fst) with hm | hm
      · exact hm
      · rw [this.2 hm] at h; cases h
    simp [this]

/-! ### How many different names -/

def dn : List (List UInt8) → Nat
  | [] => 0
  | x :: r => dn r + if x ∈ r then 0 else 1

theorem dn_snoc (x : List UInt8) : ∀ (r : List (List UInt8)), dn (r ++ [x]) = dn r + if x ∈ r then 0 else 1
  | [] => by simp [dn]
  | y :: r => by
    rw [List.cons_append, dn, dn_snoc x r, dn]
    by_cases e : x = y
    · subst e; simp
    · have e' : ¬ y = x := fun h => e h.symm
      simp [e, e']
      omega

theorem dn_le (l : List (List UInt8)) : dn l ≤ l.length := by
  induction l with
  | nil => simp [dn]
  | cons x r ih => unfold dn; split <;> simp <;> omega

/-- Of the names in r those, at their last place, that l has too. -/
def lc (l : List (List UInt8)) : List (List UInt8) → Nat
  | [] => 0
  | x :: r => (if x ∈ l ∧ x ∉ r then 1 else 0) + lc l r

theorem lc_nil (r : List (List UInt8)) : lc [] r = 0 := by
  induction r with
  | nil => rfl
  | cons x r ih => simp [lc, ih]

theorem lc_cons (y : List UInt8) (l : List (List UInt8)) : ∀ (r : List (List UInt8)), lc (y :: l) r = lc l r + if y ∈ l then 0 else if y ∈ r then 1 else 0
  | [] => by simp [lc]
  | x :: r => by
    rw [lc, lc, lc_cons y l r]
    by_cases hy : y ∈ l
    · by_cases e : x = y
      · subst e; simp [hy]
      · simp [hy, e]
    · by_cases e : x = y
      · subst e
        by_cases hx : x ∈ r <;> simp [hy, hx]
        omega
      · have e' : ¬ y = x := fun h => e h.symm
        simp [hy, e, e']
        omega

/-- The names of two lists together, less those that both have. -/
theorem dn_append (r : List (List UInt8)) : ∀ (l : List (List UInt8)), dn (l ++ r) + lc l r = dn l + dn r
  | [] => by simp [dn, lc_nil]
  | y :: l => by
    rw [List.cons_append, dn, dn, lc_cons]
    have ih := dn_append r l
    by_cases h1 : y ∈ l
    · simp [h1]; omega
    · by_cases h2 : y ∈ r
      · simp [h1, h2]; omega
      · simp [h1, h2]; omega

theorem dn_insert (x : List UInt8) (r : List (List UInt8)) : ∀ (l : List (List UInt8)), dn (l ++ x :: r) = dn (l ++ r) + if x ∈ l ++ r then 0 else 1
  | [] => by simp [dn]
  | y :: l => by
    rw [List.cons_append, dn, dn_insert x r l, List.cons_append, dn]
    by_cases e : x = y
    · subst e; simp
    · have e' : ¬ y = x := fun h => e h.symm
      simp [e, e']
      omega

end Go.Proofs.Qxb6608853a
