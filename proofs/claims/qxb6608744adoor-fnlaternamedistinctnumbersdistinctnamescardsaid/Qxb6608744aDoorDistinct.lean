import Derived.Test.Qxb6608744aDoorMap
namespace Go.Proofs.Qxb6608744aDoor
open Go.RowKit

set_option maxRecDepth 100000 in
set_option maxHeartbeats 1000000 in
theorem distinct_in (name : ByteArray) (n1 n2 : Int) (m : Option Nat) (cnt : Nat) (tk : List UInt8 → Bool) (w : World) (hm : MapIs w m cnt tk)
    (hname : name.size ≤ 4096) (hcnt : cnt ≤ 4096) (h10 : -9223372036854775808 ≤ n1) (h11 : n1 ≤ 9223372036854775807) (h20 : -9223372036854775808 ≤ n2) (h21 : n2 ≤ 9223372036854775807) (htab : Lib.TabIs Tryd.prog w powName .u64 Lib.pow10Tab) :
    Calls Tryd.prog 4 #[.string name, .int .i64 n1, .int .i64 n2, .map m] w fun e w' => e = .returned (.bool true) ∧ Below w.heap.size w w' := by
  have hlen := hm.len w (Below.refl _ _)
  go_enter Tryd.func4, Tryd.ntmps4
  go_wp2_with fail
  refine (ZZlater_any name n1 none 0 (fun _ => false) w _ (Below.refl _ _) (mapIs_none w) hname (by omega) h10 h11 htab).mono ?_
  rintro e w1 ⟨k0, hk1, hk2, rfl, _, _, hb1⟩
  obtain rfl : k0 = 1 := by omega
  obtain ⟨b0, hb0⟩ : ∃ b : ByteArray, (⟨(full name.data.toList 1 (Lib.itoa n1)).toArray⟩ : ByteArray) = b := ⟨_, rfl⟩
  have B0 : Hid (b0.data.toList = full name.data.toList 1 (Lib.itoa n1)) := by show _ = _; rw [← hb0]
  rw [hb0]
  clear hb0 hlen
  go_wp2_with fail
  refine (ZZlater_any name n1 m cnt tk w _ hb1 hm hname hcnt h10 h11 (tab_later hb1 htab)).mono ?_
  rintro e w2 ⟨k1, hk11, hk12, rfl, f1, t1, hb2'⟩
  have hb2 : Below w.heap.size w w2 := hb1.trans (hb2'.mono hb1.size)
  obtain ⟨r1, hr1⟩ : ∃ b : ByteArray, (⟨(full name.data.toList k1 (Lib.itoa n1)).toArray⟩ : ByteArray) = b := ⟨_, rfl⟩
  have R1 : Hid (r1.data.toList = full name.data.toList k1 (Lib.itoa n1)) := by show _ = _; rw [← hr1]
  have F1 : Hid (tk (full name.data.toList k1 (Lib.itoa n1)) = false ∧ ∀ j, 1 ≤ j → j < k1 → tk (full name.data.toList j (Lib.itoa n1)) = true) := ⟨f1, t1⟩
  rw [hr1]
  clear hr1 f1 t1 hb2'
  go_wp2_with fail
  refine (ZZlater_any name n2 m cnt tk w _ hb2 hm hname hcnt h20 h21 (tab_later hb2 htab)).mono ?_
  rintro e w3 ⟨k2, hk21, hk22, rfl, f2, t2, hb3'⟩
  have hb3 : Below w.heap.size w w3 := hb2.trans (hb3'.mono hb2.size)
  obtain ⟨r2, hr2⟩ : ∃ b : ByteArray, (⟨(full name.data.toList k2 (Lib.itoa n2)).toArray⟩ : ByteArray) = b := ⟨_, rfl⟩
  have R2 : Hid (r2.data.toList = full name.data.toList k2 (Lib.itoa n2)) := by show _ = _; rw [← hr2]
  have F2 : Hid (tk (full name.data.toList k2 (Lib.itoa n2)) = false ∧ ∀ j, 1 ≤ j → j < k2 → tk (full name.data.toList j (Lib.itoa n2)) = true) := ⟨f2, t2⟩
  rw [hr2]
  clear hr2 f2 t2 hb3'
  go_wp2_with fail
  refine (zzItoa_any n1 h10 h11 _).mono ?_
  rintro e w4 ⟨rfl, hb4'⟩
  have hb4 : Below w.heap.size w w4 := hb3.trans (hb4'.mono hb3.size)
  obtain ⟨num, hnum⟩ : ∃ b : ByteArray, (⟨(Lib.itoa n1).toArray⟩ : ByteArray) = b := ⟨_, rfl⟩
  have NU : Hid (num.data.toList = Lib.itoa n1) := by show _ = _; rw [← hnum]
  have hns : num.size ≤ 21 := by have := Lib.itoa_length_le n1 h10 h11; rw [← NU.out] at this; simpa using this
  rw [hnum]
  clear hnum hb4'
  have hs1 : r1.size ≤ 8216 := by
    have := congrArg List.length R1.out; rw [full_length] at this
    have h2 := Lib.itoa_length_le n1 h10 h11; simp at this; omega
  have hs2 : r2.size ≤ 8216 := by
    have := congrArg List.length R2.out; rw [full_length] at this
    have h2 := Lib.itoa_length_le n2 h20 h21; simp at this; omega
  have hl1 := hm.look w4 hb4 r1 (by unfold maxLen; omega)
  have hl2 := hm.look w4 hb4 r2 (by unfold maxLen; omega)
  rw [R1.out, F1.out.1] at hl1
  rw [R2.out, F2.out.1] at hl2
  have hbase : (b0.toList == (name ++ ⟨#[35]⟩ ++ num).toList) = true :=
    beq_toList B0.out (y := full name.data.toList 1 (Lib.itoa n1)) (by simp [full, NU.out]) (by simp)
  have hcmp : (r1.toList == r2.toList) = (n1 == n2) := by
    refine beq_toList R1.out R2.out ?_
    by_cases e : n1 = n2
    · subst e
      rw [least_unique hk11 hk21 F1.out.1 F2.out.1 F1.out.2 F2.out.2]
      simp
    · rw [beq_eq_false_iff_ne.2 (fun h => e (full_inj h).2), beq_eq_false_iff_ne.2 e]
  clear hm
  cases hn : (n1 == n2)
  · rw [hn] at hcmp
    go_wp2
    go_ret
    exact ⟨rfl, hb4⟩
  · rw [hn] at hcmp
    go_wp2
    go_ret
    exact ⟨rfl, hb4⟩

set_option maxHeartbeats 400000 in
theorem distinct_edge (name : ByteArray) (n1 n2 : Int) (m : Option Nat) (cnt : Nat) (tk : List UInt8 → Bool) (w : World) (hm : MapIs w m cnt tk) (hs : name.size ≤ 9223372036854775807)
    (hno : 4096 < name.size ∨ (name.size ≤ 4096 ∧ 4096 < cnt)) :
    Calls Tryd.prog 4 #[.string name, .int .i64 n1, .int .i64 n2, .map m] w fun e w' => e = .returned (.bool true) ∧ Below w.heap.size w w' := by
  have hlen := hm.len w (Below.refl _ _)
  clear hm
  rcases hno with h | ⟨h, h'⟩
  all_goals
    go_enter Tryd.func4, Tryd.ntmps4
    go_wp2
    go_ret
    exact ⟨rfl, Below.refl _ _⟩

end Go.Proofs.Qxb6608744aDoor
