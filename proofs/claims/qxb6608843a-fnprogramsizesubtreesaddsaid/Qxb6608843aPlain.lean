import Derived.Test.Qxb6608843aSize
namespace Go.Proofs.Qxb6608843a
open Go.RowKit

theorem wrap_is (x : Int) : ∃ q, wrap64 x = x + q * 18446744073709551616 := by
  refine ⟨-((x + 9223372036854775808) / 18446744073709551616), ?_⟩
  unfold wrap64; omega

theorem wrap_congr {x y : Int} (q : Int) (h : x = y + q * 18446744073709551616) : wrap64 x = wrap64 y := by
  unfold wrap64; omega

theorem wrap_small {x : Int} (h0 : 0 ≤ x) (h1 : x ≤ 9223372036854775807) : wrap64 x = x := by
  unfold wrap64; omega

/-- What the last line of the law asks. -/
def FinalLaw (b wA wB wAB sA k o : Int) : Prop :=
  (b == wrap64 (o * k)) = true ∧ (wA == wrap64 (b + wrap64 (k * sA))) = true ∧ (wrap64 (wAB + b) == wrap64 (wA + wB)) = true

theorem ownS_bd (op : Int) (nr : Nat) (h : nr ≤ 262144) : 0 ≤ ownS op nr ∧ ownS op nr ≤ 262146 := by
  unfold ownS; split <;> omega

theorem law_rep (o K sA sB : Int) : FinalLaw (wrap64 (o * K)) (wrap64 (wrap64 (o + sA) * K)) (wrap64 (wrap64 (o + sB) * K)) (wrap64 (wrap64 (wrap64 (o + sA) + sB) * K)) sA K o := by
  obtain ⟨q1, e1⟩ := wrap_is (o + sA)
  obtain ⟨q2, e2⟩ := wrap_is (o + sB)
  obtain ⟨q3, e3⟩ := wrap_is (wrap64 (o + sA) + sB)
  obtain ⟨q4, e4⟩ := wrap_is (o * K)
  obtain ⟨q5, e5⟩ := wrap_is (K * sA)
  obtain ⟨q6, e6⟩ := wrap_is (wrap64 (o + sA) * K)
  obtain ⟨q7, e7⟩ := wrap_is (wrap64 (o + sB) * K)
  obtain ⟨q8, e8⟩ := wrap_is (wrap64 (wrap64 (o + sA) + sB) * K)
  have m1 : wrap64 (o + sA) * K = o * K + sA * K + (q1 * K) * 18446744073709551616 := by
    rw [e1, Int.add_mul, Int.add_mul, Int.mul_assoc, Int.mul_comm 18446744073709551616 K, ← Int.mul_assoc]
  have m2 : wrap64 (o + sB) * K = o * K + sB * K + (q2 * K) * 18446744073709551616 := by
    rw [e2, Int.add_mul, Int.add_mul, Int.mul_assoc, Int.mul_comm 18446744073709551616 K, ← Int.mul_assoc]
  have m3 : wrap64 (wrap64 (o + sA) + sB) * K = wrap64 (o + sA) * K + sB * K + (q3 * K) * 18446744073709551616 := by
    rw [e3, Int.add_mul, Int.add_mul, Int.mul_assoc, Int.mul_comm 18446744073709551616 K, ← Int.mul_assoc]
  have m5 : K * sA = sA * K := Int.mul_comm _ _
  refine ⟨by simp, ?_, ?_⟩
  · rw [beq_iff_eq]
    refine wrap_congr (q1 * K - q4 - q5) ?_
    rw [e4, e5, m1, m5]; omega
  · rw [beq_iff_eq]
    refine wrap_congr (q8 + q3 * K + q4 - q6 - q7 - q2 * K) ?_
    rw [e8, e4, e6, e7, m3, m2]; omega

theorem law_one (o sA sB : Int) (h0 : 0 ≤ o) (h1 : o ≤ 262146) : FinalLaw o (wrap64 (o + sA)) (wrap64 (o + sB)) (wrap64 (wrap64 (o + sA) + sB)) sA 1 o := by
  obtain ⟨q1, e1⟩ := wrap_is (o + sA)
  obtain ⟨q2, e2⟩ := wrap_is (o + sB)
  obtain ⟨q3, e3⟩ := wrap_is (wrap64 (o + sA) + sB)
  obtain ⟨q5, e5⟩ := wrap_is sA
  refine ⟨?_, ?_, ?_⟩
  · rw [Int.mul_one, wrap_small h0 (by omega)]; simp
  · rw [beq_iff_eq, Int.one_mul]
    refine wrap_congr (-q5) ?_
    rw [e5]; omega
  · rw [beq_iff_eq]
    refine wrap_congr (q3 - q2) ?_
    rw [e3, e2]; omega

theorem final_law (op : Int) (nr : Nat) (lo hi sA sB : Int) (h : nr ≤ 262144) :
    FinalLaw (sizeS op nr lo hi []) (sizeS op nr lo hi [sA]) (sizeS op nr lo hi [sB]) (sizeS op nr lo hi [sA, sB]) sA (kS op lo hi) (ownS op nr) := by
  unfold sizeS kS
  by_cases h17 : op = 17
  · simp only [if_pos h17, psum]
    exact law_rep _ _ _ _
  · simp only [if_neg h17, psum]
    exact law_one _ _ _ (ownS_bd op nr h).1 (ownS_bd op nr h).2

end Go.Proofs.Qxb6608843a
