import Derived.Lib.ItoaLen
import Derived.Laws.Strings
namespace Go.Proofs.Qxb6608744aDoor

/-- The number that a run of digits spells. -/
def spelt (l : List UInt8) : Nat := l.foldl (fun a b => a * 10 + (b.toNat - 48)) 0

theorem spelt_snoc (l : List UInt8) (b : UInt8) : spelt (l ++ [b]) = spelt l * 10 + (b.toNat - 48) := by simp [spelt, List.foldl_append]

theorem digit_toNat (d : Nat) (h : d < 10) : (UInt8.ofNat (48 + d)).toNat = 48 + d := by
  simp [UInt8.toNat_ofNat']; omega

theorem spelt_decDigits (u : Nat) : spelt (Lib.decDigits u) = u := by
  induction u using Nat.strongRecOn with
  | ind u ih =>
    rw [Lib.decDigits]
    split
    · rename_i h
      show spelt ([] ++ [UInt8.ofNat (48 + u)]) = u
      rw [spelt_snoc, digit_toNat u h]; simp [spelt]
    · rename_i h
      rw [spelt_snoc, ih (u / 10) (by omega), digit_toNat (u % 10) (by omega)]
      omega

theorem decDigits_inj {u v : Nat} (h : Lib.decDigits u = Lib.decDigits v) : u = v := by
  rw [← spelt_decDigits u, h, spelt_decDigits v]

theorem decDigits_mem (u : Nat) : ∀ b ∈ Lib.decDigits u, 48 ≤ b.toNat := by
  induction u using Nat.strongRecOn with
  | ind u ih =>
    rw [Lib.decDigits]
    split
    · rename_i h
      intro b hb
      simp only [List.mem_singleton] at hb
      rw [hb, digit_toNat u h]; omega
    · rename_i h
      intro b hb
      rcases List.mem_append.1 hb with hb | hb
      · exact ih (u / 10) (by omega) b hb
      · simp only [List.mem_singleton] at hb
        rw [hb, digit_toNat (u % 10) (by omega)]; omega

theorem itoa_inj {n m : Int} (h : Lib.itoa n = Lib.itoa m) : n = m := by
  unfold Lib.itoa at h
  split at h <;> split at h
  · have := decDigits_inj (List.cons.inj h).2
    omega
  · exfalso
    have := decDigits_mem m.toNat 45 (by rw [← h]; simp)
    simp at this
  · exfalso
    have := decDigits_mem n.toNat 45 (by rw [h]; simp)
    simp at this
  · have := decDigits_inj h
    omega

theorem itoa_mark (n : Int) : ∀ b ∈ Lib.itoa n, b ≠ 35 := by
  intro b hb e
  subst e
  unfold Lib.itoa at hb
  split at hb
  · rcases List.mem_cons.1 hb with hb | hb
    · exact absurd hb (by decide)
    · have := decDigits_mem _ _ hb; simp at this
  · have := decDigits_mem _ _ hb; simp at this

theorem run_inj {x y : List UInt8} (hx : ∀ b ∈ x, b ≠ 35) (hy : ∀ b ∈ y, b ≠ 35) : ∀ (i j : Nat), List.replicate i 35 ++ x = List.replicate j 35 ++ y → i = j ∧ x = y
  | 0, 0, h => ⟨rfl, by simpa using h⟩
  | 0, j + 1, h => by
    exfalso
    rw [List.replicate_succ] at h
    simp at h
    exact hx 35 (by rw [h]; simp) rfl
  | i + 1, 0, h => by
    exfalso
    rw [List.replicate_succ] at h
    simp at h
    exact hy 35 (by rw [← h]; simp) rfl
  | i + 1, j + 1, h => by
    rw [List.replicate_succ, List.replicate_succ] at h
    simp at h
    obtain ⟨e1, e2⟩ := run_inj hx hy i j h
    exact ⟨by omega, e2⟩

/-- The name with k marks and the number. -/
def full (name : List UInt8) (k : Nat) (num : List UInt8) : List UInt8 := name ++ (List.replicate k 35 ++ num)

theorem full_length (name num : List UInt8) (k : Nat) : (full name k num).length = name.length + (k + num.length) := by simp [full]

theorem full_inj {name : List UInt8} {i j : Nat} {n m : Int} (h : full name i (Lib.itoa n) = full name j (Lib.itoa m)) : i = j ∧ n = m := by
  unfold full at h
  obtain ⟨e1, e2⟩ := run_inj (itoa_mark n) (itoa_mark m) i j (List.append_cancel_left h)
  exact ⟨e1, itoa_inj e2⟩

/-- The least free run of marks is one number. -/
theorem least_unique {tk : List UInt8 → Bool} {name num : List UInt8} {i j : Nat} (hi : 1 ≤ i) (hj : 1 ≤ j) (fi : tk (full name i num) = false) (fj : tk (full name j num) = false)
    (ti : ∀ k, 1 ≤ k → k < i → tk (full name k num) = true) (tj : ∀ k, 1 ≤ k → k < j → tk (full name k num) = true) : i = j := by
  rcases Nat.lt_trichotomy i j with h | h | h
  · rw [tj i hi h] at fi; cases fi
  · exact h
  · rw [ti j hj h] at fj; cases fj

end Go.Proofs.Qxb6608744aDoor
