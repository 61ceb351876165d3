import Derived.Test.Qxb6608853aBytes
namespace Go.Proofs.Qxb6608853a
open Go.RowKit Go.Maps

set_option maxRecDepth 100000 in
set_option maxHeartbeats 1000000 in
theorem insert_edge (a0 a1 : Option Addr) (len0 cap0 len1 cap1 : Nat) (x : ByteArray) (pl : Int) (nm : Nat → ByteArray) (w : World) (h0 : len0 ≤ 9223372036854775807) (h1 : len1 ≤ 9223372036854775807) (hx : x.size ≤ 9223372036854775807)
    (hn : NamesAt w a0 len0 nm) (ho : 65536 < len0 ∨ 65536 < len1 ∨ 65536 < x.size ∨ 1048576 < 16 * len0 + len1 + x.size) :
    Calls Try.prog 4 #[.slice a0 len0 cap0, .slice a1 len1 cap1, .string x, .int .i64 pl] w fun e w' => e = .returned (.bool true) ∧ Below w.heap.size w w' := by
  go_enter Try.func4, Try.ntmps4
  go_wp2_with fail
  refine (bytes9_any a0 a1 len0 cap0 len1 cap1 x pl nm _ (by omega) (by omega) (by omega) hn).mono ?_
  rintro e w' ⟨⟨r, rfl⟩, hw'⟩
  subst w'
  cases r
  · go_wp2
    go_ret
    exact ⟨rfl, Below.refl _ _⟩
  clear hn
  by_cases c1 : 65536 < len0
  · have hd1 : decide (65536 < (len0 : Int)) = true := by simp; omega
    go_wp2
    go_ret
    exact ⟨rfl, Below.refl _ _⟩
  have hd1 : decide (65536 < (len0 : Int)) = false := by simp; omega
  by_cases c2 : 65536 < len1
  · have hd2 : decide (65536 < (len1 : Int)) = true := by simp; omega
    go_wp2
    go_ret
    exact ⟨rfl, Below.refl _ _⟩
  have hd2 : decide (65536 < (len1 : Int)) = false := by simp; omega
  by_cases c3 : 65536 < x.size
  · have hdx : decide (65536 < (x.size : Int)) = true := by simp; omega
    go_wp2
    go_ret
    exact ⟨rfl, Below.refl _ _⟩
  have hdx : decide (65536 < (x.size : Int)) = false := by simp; omega
  have hd3 : decide (1048576 < 16 * (len0 : Int) + (len1 : Int) + (x.size : Int)) = true := by simp; omega
  go_wp2
  go_ret
  exact ⟨rfl, Below.refl _ _⟩

end Go.Proofs.Qxb6608853a
