import Derived.Test.Qxb6608843aSize
namespace Go.Proofs.Qxb6608843a
open Go.RowKit

set_option maxRecDepth 100000 in
set_option maxHeartbeats 1000000 in
theorem main_edge (op lo hi : Int) (ro : Option Addr) (nr rc : Nat) (aop alo ahi : Int) (aro : Option Addr) (anr arc : Nat) (bop blo bhi : Int) (bro : Option Addr) (bnr brc : Nat) (w : World)
    (hnr : nr ≤ 9223372036854775807) (hanr : anr ≤ 9223372036854775807) (hbnr : bnr ≤ 9223372036854775807)
    (hno : 262144 < nr ∨ (nr ≤ 262144 ∧ 262144 < anr) ∨ (nr ≤ 262144 ∧ anr ≤ 262144 ∧ 262144 < bnr) ∨ (nr ≤ 262144 ∧ anr ≤ 262144 ∧ bnr ≤ 262144 ∧ 262144 < nr + anr + bnr)) :
    Calls Try.prog 3 #[.int .u8 op, .slice ro nr rc, .int .i64 lo, .int .i64 hi, .int .u8 aop, .slice aro anr arc, .int .i64 alo, .int .i64 ahi, .int .u8 bop, .slice bro bnr brc, .int .i64 blo, .int .i64 bhi] w fun e w' => e = .returned (.bool true) ∧ Below w.heap.size w w' := by
  rcases hno with h | ⟨h, h'⟩ | ⟨h, h', h''⟩ | ⟨h, h', h'', h3⟩
  all_goals
    go_enter Try.func3, Try.ntmps3
    go_wp2_with fail
    refine (bytes_any op lo hi ro nr rc aop alo ahi aro anr arc bop blo bhi bro bnr brc _ (by omega) (by omega) (by omega)).mono ?_
    rintro e w' ⟨⟨r, rfl⟩, hw'⟩
    subst w'
    cases r
    · go_wp2
      go_ret
      exact ⟨rfl, Below.refl _ _⟩
    · go_wp2
      go_ret
      exact ⟨rfl, Below.refl _ _⟩

end Go.Proofs.Qxb6608843a
