import Derived.Test.Qxb6608853aBuild
import Derived.Deep.CutRange
import Derived.Deep.QuietTactic
import Derived.BigQuiet
namespace Go.Proofs.Qxb6608853a
open Go.RowKit Go.Maps

theorem Try.info30 : (Try.prog.info? 30).map (fun i => (i.zero, i.size, i.bytes)) = some (some (.pointer none), 1, 8) := by kernel_rfl

/-- What the walks are told of the slice of names and of the slice of bools. -/
def NamesAt (w : World) (a : Option Addr) (len : Nat) (nm : Nat → ByteArray) : Prop :=
  ∀ t, t < len → (∃ b o, a = some ⟨b, o, none⟩ ∧ w.cell? ⟨b, o + t, none⟩ = some (.string (nm t))) ∧ (nm t).size ≤ 9223372036854775807
def BoolsAt (w : World) (a : Option Addr) (len : Nat) (isf : Nat → Bool) : Prop :=
  ∀ t, t < len → ∃ b o, a = some ⟨b, o, none⟩ ∧ w.cell? ⟨b, o + t, none⟩ = some (.bool (isf t))

def IsBool (e : Ending) : Prop := ∃ r : Bool, e = .returned (.bool r)

set_option maxHeartbeats 1000000 in
theorem bytes5_any (a0 a1 : Option Addr) (len0 cap0 len1 cap1 : Nat) (k : Int) (nm : Nat → ByteArray) (w : World) (h0 : len0 ≤ 9223372036854775807) (h1 : len1 ≤ 9223372036854775807) (hn : NamesAt w a0 len0 nm) :
    Calls Try.prog 5 #[.slice a0 len0 cap0, .slice a1 len1 cap1, .int .i64 k] w fun e w' => IsBool e ∧ w' = w := by
  go_enter Try.func5, Try.ntmps5
  go_wp2
  iterate 3 (first | (go_ret; exact ⟨⟨_, rfl⟩, rfl⟩) | skip)
  go_loop [7, 8] (fun t i => ∃ k : Nat, k ≤ len0 ∧ i = .int .i64 k ∧ ∃ r : Int, 0 ≤ r ∧ r ≤ 1048576 ∧ t = .int .i64 r) (fun _ i => len0 - (intOf i).toNat)
  case atStart => exact ⟨0, Nat.zero_le _, rfl, _, by omega, by omega, rfl⟩
  case round =>
    obtain ⟨k, hk, rfl, r, hr1, hr2, rfl⟩ := hrel
    by_cases hlt : k < len0
    · obtain ⟨⟨b, o, rfl, hcell⟩, hss⟩ := hn k hlt
      have hss0 : 0 ≤ ((nm k).size : Int) := by omega
      clear hn
      go_wp2
      · go_ret
        exact ⟨⟨_, rfl⟩, rfl⟩
      · go_ret
        exact ⟨⟨_, rfl⟩, rfl⟩
      · go_round
        case rel => exact ⟨k + 1, by omega, by go_num, _, by omega, by omega, rfl⟩
        case measure => simp [intOf]; omega
    · go_wp2
      all_goals go_ret
      all_goals exact ⟨⟨_, rfl⟩, rfl⟩

set_option maxHeartbeats 1000000 in
theorem bytes9_any (a0 a1 : Option Addr) (len0 cap0 len1 cap1 : Nat) (x : ByteArray) (k : Int) (nm : Nat → ByteArray) (w : World) (h0 : len0 ≤ 9223372036854775807) (h1 : len1 ≤ 9223372036854775807) (hx : x.size ≤ 9223372036854775807) (hn : NamesAt w a0 len0 nm) :
    Calls Try.prog 9 #[.slice a0 len0 cap0, .slice a1 len1 cap1, .string x, .int .i64 k] w fun e w' => IsBool e ∧ w' = w := by
  go_enter Try.func9, Try.ntmps9
  go_wp2
  iterate 3 (first | (go_ret; exact ⟨⟨_, rfl⟩, rfl⟩) | skip)
  go_loop [9, 10] (fun t i => ∃ k : Nat, k ≤ len0 ∧ i = .int .i64 k ∧ ∃ r : Int, 0 ≤ r ∧ r ≤ 1048576 ∧ t = .int .i64 r) (fun _ i => len0 - (intOf i).toNat)
  case atStart => exact ⟨0, Nat.zero_le _, rfl, _, by omega, by omega, rfl⟩
  case round =>
    obtain ⟨k, hk, rfl, r, hr1, hr2, rfl⟩ := hrel
    by_cases hlt : k < len0
    · obtain ⟨⟨b, o, rfl, hcell⟩, hss⟩ := hn k hlt
      have hss0 : 0 ≤ ((nm k).size : Int) := by omega
      clear hn
      go_wp2
      · go_ret
        exact ⟨⟨_, rfl⟩, rfl⟩
      · go_ret
        exact ⟨⟨_, rfl⟩, rfl⟩
      · go_round
        case rel => exact ⟨k + 1, by omega, by go_num, _, by omega, by omega, rfl⟩
        case measure => simp [intOf]; omega
    · go_wp2
      all_goals go_ret
      all_goals exact ⟨⟨_, rfl⟩, rfl⟩

end Go.Proofs.Qxb6608853a
