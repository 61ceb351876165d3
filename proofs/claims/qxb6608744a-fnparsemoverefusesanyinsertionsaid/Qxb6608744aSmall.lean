import Derived.Test.Qxb6608744aRows
import Derived.WalkKit
import Derived.WalkSpells
import Derived.WalkLawsBesides
namespace Go.Proofs.Qxb6608744a
open Go.RowKit

/-- The call hands back a bool. -/
def IsBool (e : Ending) : Prop := ∃ r : Bool, e = .returned (.bool r)

theorem getD_mem_of (ss : List ByteArray) (k : Nat) (h : k < ss.length) : ss.getD k ByteArray.empty ∈ ss := by
  rw [List.getD_eq_getElem?_getD, List.getElem?_eq_getElem h]; simp

set_option maxHeartbeats 400000 in
theorem add_any (t n : Int) (w : World) (ht : 0 ≤ t) (ht2 : t ≤ 2097152) (hn : 0 ≤ n) (hn2 : n ≤ 9223372036854775807) :
    Calls Try.prog 5 #[.int .i64 t, .int .i64 n] w fun e w' => (∃ r : Int, 0 ≤ r ∧ r ≤ 2097152 ∧ e = .returned (.int .i64 r)) ∧ w' = w := by
  go_enter Try.func5, Try.ntmps5
  go_wp2
  all_goals go_ret
  all_goals exact ⟨⟨_, by omega, by omega, rfl⟩, rfl⟩

set_option maxHeartbeats 800000 in
theorem argsBytes_any (t : Int) (a : Option Addr) (len cap : Nat) (ss : List ByteArray) (w : World) (ht : 0 ≤ t) (ht2 : t ≤ 2097152)
    (hl : ss.length = len) (hlen : len ≤ 9223372036854775807) (hsz : ∀ s ∈ ss, s.size ≤ 9223372036854775807)
    (hc : ∀ i, i < ss.length → ∃ b o, a = some ⟨b, o, none⟩ ∧ w.cell? ⟨b, o + i, none⟩ = some (.string (ss.getD i ByteArray.empty))) :
    Calls Try.prog 6 #[.int .i64 t, .slice a len cap] w fun e w' => (∃ r : Int, 0 ≤ r ∧ r ≤ 2097152 ∧ e = .returned (.int .i64 r)) ∧ w' = w := by
  go_enter Try.func6, Try.ntmps6
  go_wp2
  go_loop [0, 5] (fun t i => ∃ k : Nat, k ≤ len ∧ i = .int .i64 k ∧ ∃ r : Int, 0 ≤ r ∧ r ≤ 2097152 ∧ t = .int .i64 r) (fun _ i => len - (intOf i).toNat)
  case atStart => exact ⟨0, Nat.zero_le _, rfl, _, ht, ht2, rfl⟩
  case round =>
    obtain ⟨k, hk, rfl, r, hr1, hr2, rfl⟩ := hrel
    by_cases hlt : k < len
    · obtain ⟨s, hs⟩ : ∃ s, s = ss.getD k ByteArray.empty := ⟨_, rfl⟩
      obtain ⟨b, o, rfl, hcell⟩ := hc k (by omega)
      rw [← hs] at hcell
      have hss : s.size ≤ 9223372036854775807 := hsz s (by rw [hs]; exact getD_mem_of _ _ (by omega))
      have hss0 : 0 ≤ (s.size : Int) := by omega
      clear hs hc
      go_wp2_with (go_at_call 5; refine (add_any _ _ _ (by omega) (by omega) (by omega) (by omega)).mono ?_; rintro e w' ⟨⟨r', h1, h2, rfl⟩, rfl⟩)
      · go_ret
        exact ⟨⟨_, by omega, by omega, rfl⟩, rfl⟩
      · go_round
        case rel => exact ⟨k + 1, by omega, by go_num, _, by omega, by omega, rfl⟩
        case measure => simp [intOf]; omega
    · go_wp2
      go_ret
      exact ⟨⟨_, by omega, by omega, rfl⟩, rfl⟩

set_option maxHeartbeats 1000000 in
theorem bytes_any (s0 s1 s2 s3 s5 : ByteArray) (k6 : Int) (a : Option Addr) (len cap : Nat) (ss : List ByteArray) (w : World)
    (h0 : s0.size ≤ 9223372036854775807) (h1 : s1.size ≤ 9223372036854775807) (h2 : s2.size ≤ 9223372036854775807) (h3 : s3.size ≤ 9223372036854775807) (h5 : s5.size ≤ 9223372036854775807)
    (hl : ss.length = len) (hlen : len ≤ 9223372036854775807) (hsz : ∀ s ∈ ss, s.size ≤ 9223372036854775807)
    (hc : ∀ i, i < ss.length → ∃ b o, a = some ⟨b, o, none⟩ ∧ w.cell? ⟨b, o + i, none⟩ = some (.string (ss.getD i ByteArray.empty))) :
    Calls Try.prog 4 #[.string s0, .string s1, .string s2, .string s3, .slice a len cap, .string s5, .int .i64 k6] w fun e w' => IsBool e ∧ w' = w := by
  go_enter Try.func4, Try.ntmps4
  go_wp2
  iterate 10 (first | (go_ret; exact ⟨⟨_, rfl⟩, rfl⟩) | skip)
  go_loop [15, 16] (fun t i => ∃ k : Nat, k ≤ len ∧ i = .int .i64 k ∧ ∃ r : Int, 0 ≤ r ∧ r ≤ 1048576 ∧ t = .int .i64 r) (fun _ i => len - (intOf i).toNat)
  case atStart => exact ⟨0, Nat.zero_le _, rfl, _, by omega, by omega, rfl⟩
  case round =>
    obtain ⟨k, hk, rfl, r, hr1, hr2, rfl⟩ := hrel
    by_cases hlt : k < len
    · obtain ⟨s, hs⟩ : ∃ s, s = ss.getD k ByteArray.empty := ⟨_, rfl⟩
      obtain ⟨b, o, rfl, hcell⟩ := hc k (by omega)
      rw [← hs] at hcell
      have hss : s.size ≤ 9223372036854775807 := hsz s (by rw [hs]; exact getD_mem_of _ _ (by omega))
      have hss0 : 0 ≤ (s.size : Int) := by omega
      clear hs hc
      go_wp2
      · go_ret
        exact ⟨⟨_, rfl⟩, rfl⟩
      · go_ret
        exact ⟨⟨_, rfl⟩, rfl⟩
      · go_round
        case rel => exact ⟨k + 1, by omega, by go_num, _, by omega, by omega, rfl⟩
        case measure => simp [intOf]; omega
    · go_wp2
      all_goals go_ret
      all_goals exact ⟨⟨_, rfl⟩, rfl⟩

end Go.Proofs.Qxb6608744a
