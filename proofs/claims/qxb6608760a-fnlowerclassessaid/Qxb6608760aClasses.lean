import Derived.Test.Qxb6608760aLower
namespace Go.Proofs.Qxb6608760a
open Go.RowKit

/-- How many of the first k bytes have the image l. -/
def cnt (l : Int) : Nat → Nat
  | 0 => 0
  | k + 1 => cnt l k + if low k == l then 1 else 0

theorem cnt_le (l : Int) (k : Nat) : cnt l k ≤ k := by
  induction k with
  | zero => simp [cnt]
  | succ k ih => unfold cnt; split <;> omega

/-- What is true of one byte. -/
def Good (c : Int) : Prop :=
  ((97 ≤ bits .or .u8 c 32 ∧ bits .or .u8 c 32 ≤ 122 ∧ cnt (low c) 256 = 2) ∨ (bits .or .u8 c 32 < 97 ∧ cnt (low c) 256 = 1) ∨ (97 ≤ bits .or .u8 c 32 ∧ 122 < bits .or .u8 c 32 ∧ cnt (low c) 256 = 1)) ∧
  (low c < 65 ∨ (65 ≤ low c ∧ 90 < low c)) ∧ low (low c) = low c ∧ (bits .xor .u8 (low c) c = 0 ∨ bits .xor .u8 (low c) c = 32)

def goodB (c : Int) : Bool :=
  ((decide (97 ≤ bits .or .u8 c 32) && (decide (bits .or .u8 c 32 ≤ 122) && decide (cnt (low c) 256 = 2))) || ((decide (bits .or .u8 c 32 < 97) && decide (cnt (low c) 256 = 1)) || (decide (97 ≤ bits .or .u8 c 32) && (decide (122 < bits .or .u8 c 32) && decide (cnt (low c) 256 = 1))))) &&
  ((decide (low c < 65) || (decide (65 ≤ low c) && decide (90 < low c))) && (decide (low (low c) = low c) && (decide (bits .xor .u8 (low c) c = 0) || decide (bits .xor .u8 (low c) c = 32))))

theorem good_of (c : Int) (h : goodB c = true) : Good c := by
  simpa [goodB, Good] using h

theorem good_all : ((List.range 256).all fun c => goodB (c : Int)) = true := by decide +kernel

theorem good (c : Int) (h0 : 0 ≤ c) (h1 : c ≤ 255) : Good c := by
  obtain ⟨n, rfl⟩ := Int.eq_ofNat_of_zero_le h0
  exact good_of _ (List.all_eq_true.1 good_all n (List.mem_range.2 (by omega)))

set_option maxRecDepth 100000 in
set_option maxHeartbeats 1000000 in
theorem classes_any (c : Int) (h0 : 0 ≤ c) (h1 : c ≤ 255) (w : World) :
    Calls Try.prog 3 #[.int .u8 c] w fun e w' => e = .returned (.bool true) ∧ w' = w := by
  obtain ⟨l, hl⟩ : ∃ l, l = low c := ⟨_, rfl⟩
  have hlb := low_bd c h0 h1
  have HL : Hid (l = low c) := hl
  rw [← hl] at hlb
  go_enter Try.func3, Try.ntmps3
  go_wp2_with fail
  refine (ZZlower_any c h0 h1 _).mono ?_
  rintro e wx ⟨rfl, hwx⟩
  subst wx
  rw [← hl]
  clear hl
  go_wp2
  go_loop [4, 5] (fun n d => ∃ k : Nat, k ≤ 256 ∧ d = .int .i64 k ∧ n = .int .i64 (cnt l k)) (fun _ d => 256 - (intOf d).toNat)
  case atStart => exact ⟨0, Nat.zero_le _, rfl, rfl⟩
  case round =>
    obtain ⟨k, hk, rfl, rfl⟩ := hrel
    have hcl := cnt_le l k
    by_cases hlt : k < 256
    · go_wp2_with fail
      refine (ZZlower_any _ (by omega) (by omega) _).mono ?_
      rintro e wx ⟨rfl, hwx⟩
      subst wx
      have HC : Hid (cnt l (k + 1) = cnt l k + if low k == l then 1 else 0) := rfl
      by_cases hc : (low (k : Int) == l) = true
      · have HC' : Hid (cnt l (k + 1) = cnt l k + 1) := by show _ = _; rw [HC.out, if_pos hc]
        go_wp2
        go_round
        case rel => exact ⟨k + 1, by omega, by go_num, by rw [HC'.out]; go_num⟩
        case measure => simp [intOf]; omega
      · have hc' : (low (k : Int) == l) = false := by simpa using hc
        have HC' : Hid (cnt l (k + 1) = cnt l k) := by show _ = _; rw [HC.out, if_neg hc]; rfl
        go_wp2
        go_round
        case rel => exact ⟨k + 1, by omega, by go_num, by rw [HC'.out]⟩
        case measure => simp [intOf]; omega
    · obtain rfl : k = 256 := by omega
      obtain ⟨g1, g2, g3, g4⟩ := good c h0 h1
      rw [← HL.out] at g1 g2 g3 g4
      clear HL
      rcases g1 with ⟨o1, o2, hcn⟩ | ⟨o1, hcn⟩ | ⟨o1, o2, hcn⟩
      all_goals
        rcases g2 with l1 | ⟨l1, l2⟩
        all_goals
          rcases g4 with hx | hx
          all_goals
            go_wp2_with (go_at_call 5; refine (ZZlower_any _ hlb.1 hlb.2 _).mono ?_; rintro e wx ⟨rfl, hwx⟩; subst wx; rw [g3])
            go_ret
            exact ⟨rfl, rfl⟩

end Go.Proofs.Qxb6608760a
