import Derived.Test.Qxb6608760aRows
import Derived.WalkKit
import Derived.WalkSpells
import Derived.WalkLawsBesides
namespace Go.Proofs.Qxb6608760a
open Go.RowKit

/-- What 'lower' computes. -/
def low (c : Int) : Int := if 65 ≤ c ∧ c ≤ 90 then c + 32 else c

theorem low_bd (c : Int) (h0 : 0 ≤ c) (h1 : c ≤ 255) : 0 ≤ low c ∧ low c ≤ 255 := by unfold low; split <;> omega

theorem ret_int {k : IntKind} {a b : Int} (h : a = b) : Ending.returned (.int k a) = .returned (.int k b) := by rw [h]

set_option maxHeartbeats 400000 in
theorem lower_any (c : Int) (h0 : 0 ≤ c) (h1 : c ≤ 255) (w : World) :
    Calls Try.prog 10 #[.int .u8 c] w fun e w' => e = .returned (.int .u8 (low c)) ∧ w' = w := by
  by_cases h : 65 ≤ c
  · by_cases h' : c ≤ 90
    · go_enter Try.func10, Try.ntmps10
      go_wp2
      go_ret
      exact ⟨ret_int (by unfold low; rw [if_pos ⟨h, h'⟩]; omega), rfl⟩
    · go_enter Try.func10, Try.ntmps10
      go_wp2
      go_ret
      exact ⟨ret_int (by unfold low; rw [if_neg (by omega)]), rfl⟩
  · go_enter Try.func10, Try.ntmps10
    go_wp2
    go_ret
    exact ⟨ret_int (by unfold low; rw [if_neg (by omega)]), rfl⟩

set_option maxHeartbeats 400000 in
theorem ZZlower_any (c : Int) (h0 : 0 ≤ c) (h1 : c ≤ 255) (w : World) :
    Calls Try.prog 5 #[.int .u8 c] w fun e w' => e = .returned (.int .u8 (low c)) ∧ w' = w := by
  go_enter Try.func5, Try.ntmps5
  go_wp2_with (go_at_call 10; refine (lower_any _ h0 h1 _).mono ?_; rintro e wx ⟨rfl, hwx⟩; subst wx)
  go_ret
  exact ⟨rfl, rfl⟩

end Go.Proofs.Qxb6608760a
