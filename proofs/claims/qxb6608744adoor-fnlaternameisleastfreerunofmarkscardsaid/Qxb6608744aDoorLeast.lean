import Derived.Test.Qxb6608744aDoorMap
import Derived.Lib.Strings
import Derived.Lib.Split
namespace Go.Proofs.Qxb6608744aDoor
open Go.RowKit

theorem got_head (name g num : ByteArray) (k : Nat) (h : g.data.toList = full name.data.toList k num.data.toList) : ((g.extract 0 name.size).toList == name.toList) = true := by
  refine beq_toList (x := name.data.toList) ?_ rfl (by simp)
  rw [Lib.extract_from_zero, h, full]
  have : name.size = name.data.toList.length := by simp
  rw [this]; simp

theorem got_tail (name g num : ByteArray) (k : Nat) (h : g.data.toList = full name.data.toList k num.data.toList) : ((g.extract (name.size + k) (name.size + k + num.size)).toList == num.toList) = true := by
  refine beq_toList (x := num.data.toList) ?_ rfl (by simp)
  rw [Lib.extract_data, h, full]
  have e1 : name.size = name.data.toList.length := by simp
  have e2 : num.size = num.data.toList.length := by simp
  rw [e1, e2]
  have e3 : name.data.toList.length + k = (name.data.toList ++ List.replicate k 35).length := by simp
  rw [← List.append_assoc, e3, List.drop_left, Nat.add_sub_cancel_left, List.take_length]

theorem got_byte (name g num : ByteArray) (k : Nat) (h : g.data.toList = full name.data.toList k num.data.toList) : ∀ i (h : name.size + i < g.size), i < k → (g[name.size + i]'h).toNat = 35 := by
  intro i hi hik
  have e1 : name.size = name.data.toList.length := by simp
  have e : g[name.size + i]'hi = g.data.toList[name.size + i]'(by simpa using hi) := rfl
  rw [e]
  have e2 : g.data.toList[name.size + i]? = some 35 := by
    rw [h, full, e1, List.getElem?_append_right (by omega), List.getElem?_append_left (by simp; omega)]
    simp [hik]
  rw [List.getElem?_eq_getElem (by simpa using hi)] at e2
  rw [Option.some.inj e2]; rfl

set_option maxRecDepth 100000 in
set_option maxHeartbeats 1000000 in
theorem least_in (name : ByteArray) (n : Int) (m : Option Nat) (cnt : Nat) (tk : List UInt8 → Bool) (w : World) (hm : MapIs w m cnt tk)
    (hname : name.size ≤ 4096) (hcnt : cnt ≤ 4096) (h0 : -9223372036854775808 ≤ n) (h1 : n ≤ 9223372036854775807) (htab : Lib.TabIs Tryd.prog w powName .u64 Lib.pow10Tab) :
    Calls Tryd.prog 3 #[.string name, .int .i64 n, .map m] w fun e w' => e = .returned (.bool true) ∧ Below w.heap.size w w' := by
  have hlen := hm.len w (Below.refl _ _)
  have hd1 : decide (4096 < (name.size : Int)) = false := by simp; omega
  have hd2 : decide (4096 < (cnt : Int)) = false := by simp; omega
  go_enter Tryd.func3, Tryd.ntmps3
  go_wp2_with fail
  refine (zzItoa_any n h0 h1 _).mono ?_
  rintro e w1 ⟨rfl, hb1⟩
  obtain ⟨num, hnum⟩ : ∃ b : ByteArray, (⟨(Lib.itoa n).toArray⟩ : ByteArray) = b := ⟨_, rfl⟩
  have NU : Hid (num.data.toList = Lib.itoa n) := by show _ = _; rw [← hnum]
  have hns : num.size ≤ 21 := by have := Lib.itoa_length_le n h0 h1; rw [← NU.out] at this; simpa using this
  rw [hnum]
  clear hnum hlen
  go_wp2_with fail
  refine (ZZlater_any name n none 0 (fun _ => false) w _ hb1 (mapIs_none w) hname (by omega) h0 h1 (tab_later hb1 htab)).mono ?_
  rintro e w2 ⟨k0, hk1, hk2, rfl, _, _, hb2'⟩
  have hb2 : Below w.heap.size w w2 := hb1.trans (hb2'.mono hb1.size)
  obtain rfl : k0 = 1 := by omega
  obtain ⟨b0, hb0⟩ : ∃ b : ByteArray, (⟨(full name.data.toList 1 (Lib.itoa n)).toArray⟩ : ByteArray) = b := ⟨_, rfl⟩
  have B0 : Hid (b0.data.toList = full name.data.toList 1 (Lib.itoa n)) := by show _ = _; rw [← hb0]
  rw [hb0]
  clear hb0 hb2' hk1 hk2
  go_wp2_with fail
  refine (ZZlater_any name n m cnt tk w _ hb2 hm hname hcnt h0 h1 (tab_later hb2 htab)).mono ?_
  rintro e w3 ⟨k, hk1, hk2, rfl, f1, t1, hb3'⟩
  have hb3 : Below w.heap.size w w3 := hb2.trans (hb3'.mono hb2.size)
  obtain ⟨g, hg⟩ : ∃ b : ByteArray, (⟨(full name.data.toList k (Lib.itoa n)).toArray⟩ : ByteArray) = b := ⟨_, rfl⟩
  have G : Hid (g.data.toList = full name.data.toList k (Lib.itoa n)) := by show _ = _; rw [← hg]
  have F : Hid (tk (full name.data.toList k (Lib.itoa n)) = false ∧ ∀ j, 1 ≤ j → j < k → tk (full name.data.toList j (Lib.itoa n)) = true) := ⟨f1, t1⟩
  rw [hg]
  clear hg f1 t1 hb3'
  have hgs : g.size = name.size + k + num.size := by
    have := congrArg List.length G.out; rw [full_length, ← NU.out] at this
    simp at this; omega
  have hbs : b0.size = name.size + 1 + num.size := by
    have := congrArg List.length B0.out; rw [full_length, ← NU.out] at this
    simp at this; omega
  have hbase : (b0.toList == (name ++ ⟨#[35]⟩ ++ num).toList) = true :=
    beq_toList B0.out (y := full name.data.toList 1 (Lib.itoa n)) (by simp [full, NU.out]) (by simp)
  have hG : g.data.toList = full name.data.toList k num.data.toList := by rw [NU.out]; exact G.out
  have hp := got_head name g num k hG
  have hq := got_tail name g num k hG
  have hd3 : decide ((k : Int) < 1) = false := by simp; omega
  have hby := got_byte name g num k hG
  clear hG
  have hlk := hm.look w3 hb3 g (by unfold maxLen; omega)
  rw [G.out, F.out.1] at hlk
  have HBY : Hid (∀ i (h : name.size + i < g.size), i < k → (g[name.size + i]'h).toNat = 35) := hby
  clear hby
  go_wp2
  go_loop [11] (fun v => ∃ i : Nat, i ≤ k ∧ v = .int .i64 i) (fun v => k - (intOf v).toNat)
  case atStart => exact ⟨0, Nat.zero_le _, rfl⟩
  case round =>
    obtain ⟨i, hi, rfl⟩ := hrel
    by_cases hik : i < k
    · have hb := HBY.out i (by omega) hik
      go_wp2
      go_round
      case rel => exact ⟨i + 1, by omega, by go_num⟩
      case measure => simp [intOf]; omega
    · go_wp2
      go_loop [12, 13] (fun vm vj => ∃ (j : Nat) (M : ByteArray), 1 ≤ j ∧ j ≤ k ∧ vj = .int .i64 j ∧ vm = .string M ∧ M.size = j ∧ Hid (M.data.toList = List.replicate j 35)) (fun _ vj => k - (intOf vj).toNat)
      case atStart => exact ⟨1, _, by omega, hk1, rfl, rfl, rfl, rfl⟩
      case round =>
        obtain ⟨j, M, hj1, hj2, rfl, rfl, hMs, HM⟩ := hrel
        by_cases hjk : j < k
        · have hl := hm.look w3 hb3 (name ++ M ++ num) (by unfold maxLen; simp; omega)
          have ef : (name ++ M ++ num).data.toList = full name.data.toList j (Lib.itoa n) := by
            simp [full, HM.out, NU.out]
          rw [ef, F.out.2 j hj1 hjk] at hl
          clear ef
          go_wp2
          go_round
          case rel =>
            refine ⟨j + 1, M ++ ⟨#[35]⟩, by omega, by omega, by go_num, rfl, ?_, ?_⟩
            · rw [ByteArray.size_append, hMs]; rfl
            · show _ = _
              rw [ByteArray.data_append, Array.toList_append, HM.out, List.replicate_succ']
          case measure => simp [intOf]; omega
        · go_wp2
          go_ret
          exact ⟨rfl, hb3⟩

set_option maxHeartbeats 400000 in
theorem least_edge (name : ByteArray) (n : Int) (m : Option Nat) (cnt : Nat) (tk : List UInt8 → Bool) (w : World) (hm : MapIs w m cnt tk) (hs : name.size ≤ 9223372036854775807)
    (hno : 4096 < name.size ∨ (name.size ≤ 4096 ∧ 4096 < cnt)) :
    Calls Tryd.prog 3 #[.string name, .int .i64 n, .map m] w fun e w' => e = .returned (.bool true) ∧ Below w.heap.size w w' := by
  have hlen := hm.len w (Below.refl _ _)
  clear hm
  rcases hno with h | ⟨h, h'⟩
  all_goals
    go_enter Tryd.func3, Tryd.ntmps3
    go_wp2
    go_ret
    exact ⟨rfl, Below.refl _ _⟩

end Go.Proofs.Qxb6608744aDoor
