import Derived.Test.Qxb6608744aDoorItoa
import Derived.Test.Qxb6608744aDoorShelf
import Derived.Lib.AppendIntMem
import Derived.Test.Qxb6608744aDoorPlain
namespace Go.Proofs.Qxb6608744aDoor
open Go.RowKit

/-- What the walks are told of the map: in every later world a look-up answers 'tk'; it has 'cnt' entries; no more than that many keys answer yes. -/
structure MapIs (w : World) (m : Option Nat) (cnt : Nat) (tk : List UInt8 → Bool) : Prop where
  look : ∀ wx, Below w.heap.size w wx → ∀ s : ByteArray, s.size ≤ maxLen → (Instr.lookup 22 (.map m) (.string s) false).run Tryd.prog wx = .ok (.bool (tk s.data.toList)) wx
  len : ∀ wx, Below w.heap.size w wx → ∀ ty, (Builtin.len_ #[22] ty #[.map m]).run Tryd.prog wx = .ok (.int .i64 cnt) wx
  fin : ∀ l : List (List UInt8), l.Pairwise (fun a b => a ≠ b) → (∀ x ∈ l, tk x = true) → l.length ≤ cnt

/-- Where the first k names are taken, the map has k entries. -/
theorem MapIs.count {w : World} {m : Option Nat} {cnt : Nat} {tk : List UInt8 → Bool} (h : MapIs w m cnt tk) (name num : List UInt8) (k : Nat) (hk : ∀ j, 1 ≤ j → j < k + 1 → tk (full name j num) = true) : k ≤ cnt := by
  have := h.fin ((List.range k).map fun j => full name (j + 1) num) (by
    rw [List.pairwise_map]
    refine List.Pairwise.imp ?_ (List.pairwise_lt_range (n := k))
    intro a b hab e
    have := congrArg List.length e
    rw [full_length, full_length] at this
    omega) (by
    intro x hx
    simp only [List.mem_map, List.mem_range] at hx
    obtain ⟨j, hj, rfl⟩ := hx
    exact hk (j + 1) (by omega) (by omega))
  simpa using this

theorem str_eq {s : ByteArray} {l : List UInt8} (h : s.data.toList = l) : s = ⟨l.toArray⟩ := by
  cases s; simp at h; rw [← h]

def strLen : Value → Nat | .string s => s.size | _ => 0

set_option maxHeartbeats 400000 in
theorem later_any (name : ByteArray) (n : Int) (m : Option Nat) (cnt : Nat) (tk : List UInt8 → Bool) (w0 w : World) (hb : Below w0.heap.size w0 w) (hm : MapIs w0 m cnt tk)
    (hname : name.size ≤ 4096) (hcnt : cnt ≤ 4096) (h0 : -9223372036854775808 ≤ n) (h1 : n ≤ 9223372036854775807) (htab : Lib.TabIs Tryd.prog w powName .u64 Lib.pow10Tab) :
    Calls Tryd.prog 7 #[.string name, .int .i64 n, .map m] w fun e w' => ∃ k, 1 ≤ k ∧ k ≤ cnt + 1 ∧ e = .returned (.string ⟨(full name.data.toList k (Lib.itoa n)).toArray⟩) ∧
      tk (full name.data.toList k (Lib.itoa n)) = false ∧ (∀ j, 1 ≤ j → j < k → tk (full name.data.toList j (Lib.itoa n)) = true) ∧ Below w.heap.size w w' := by
  go_enter Tryd.func7, Tryd.ntmps7
  go_wp2_with fail
  refine (Tryd.strconv_Itoa n h0 h1 _ htab).mono ?_
  rintro e w1 ⟨rfl, q, os, hw1⟩
  have hb1 : Below w.heap.size w w1 := by rw [hw1]; exact Lib.below_grow _ _ (Nat.le_refl _) _ _
  have hb01 : Below w0.heap.size w0 w1 := hb.trans (hb1.mono hb.size)
  clear hw1
  obtain ⟨num, hnum⟩ : ∃ num : ByteArray, (⟨(Lib.itoa n).toArray⟩ : ByteArray) = num := ⟨_, rfl⟩
  have HN : Hid (num.data.toList = Lib.itoa n) := by show _ = _; rw [← hnum]
  have hns : num.size ≤ 21 := by
    have := Lib.itoa_length_le n h0 h1
    rw [← HN.out] at this
    simpa using this
  rw [hnum]
  clear hnum
  go_wp2
  go_loop [8] (fun v => ∃ (k : Nat) (M : ByteArray), v = .string M ∧ M.size = k ∧ Hid (M.data.toList = List.replicate k 35) ∧ 1 ≤ k ∧ k ≤ cnt + 1 ∧ Hid (∀ j, 1 ≤ j → j < k → tk (full name.data.toList j (Lib.itoa n)) = true)) (fun v => cnt + 2 - strLen v)
  case atStart => exact ⟨1, _, rfl, rfl, rfl, by omega, by omega, fun j h1 h2 => by omega⟩
  case round =>
    obtain ⟨k, M, rfl, hMs, HM, hk1, hk2, HT⟩ := hrel
    have hl := hm.look w1 hb01 (name ++ M ++ num) (by unfold maxLen; simp; omega)
    have ef : (name ++ M ++ num).data.toList = full name.data.toList k (Lib.itoa n) := by
      simp [full, HM.out, HN.out]
    rw [ef] at hl
    have EF : Hid ((name ++ M ++ num).data.toList = full name.data.toList k (Lib.itoa n)) := ef
    clear ef
    cases htk : tk (full name.data.toList k (Lib.itoa n))
    · rw [htk] at hl
      have HK : Hid (tk (full name.data.toList k (Lib.itoa n)) = false) := htk
      clear htk
      go_wp2
      go_ret
      exact ⟨k, hk1, hk2, congrArg (fun s => Ending.returned (.string s)) (str_eq EF.out), HK.out, HT.out, hb1⟩
    · rw [htk] at hl
      have HT' : Hid (∀ j, 1 ≤ j → j < k + 1 → tk (full name.data.toList j (Lib.itoa n)) = true) := fun j h1 h2 => by
        by_cases e : j = k
        · rw [e]; exact htk
        · exact HT.out j h1 (by omega)
      have hkc := hm.count _ _ k HT'.out
      clear htk
      go_wp2
      go_round
      case rel =>
        refine ⟨k + 1, M ++ ⟨#[35]⟩, rfl, ?_, ?_, by omega, by omega, HT'.out⟩
        · rw [ByteArray.size_append, hMs]; rfl
        · show _ = _
          rw [ByteArray.data_append, Array.toList_append, HM.out, List.replicate_succ']
      case measure =>
        simp only [strLen, ByteArray.size_append, hMs]
        have : (⟨#[35]⟩ : ByteArray).size = 1 := rfl
        omega

set_option maxHeartbeats 400000 in
theorem ZZlater_any (name : ByteArray) (n : Int) (m : Option Nat) (cnt : Nat) (tk : List UInt8 → Bool) (w0 w : World) (hb : Below w0.heap.size w0 w) (hm : MapIs w0 m cnt tk)
    (hname : name.size ≤ 4096) (hcnt : cnt ≤ 4096) (h0 : -9223372036854775808 ≤ n) (h1 : n ≤ 9223372036854775807) (htab : Lib.TabIs Tryd.prog w powName .u64 Lib.pow10Tab) :
    Calls Tryd.prog 6 #[.string name, .int .i64 n, .map m] w fun e w' => ∃ k, 1 ≤ k ∧ k ≤ cnt + 1 ∧ e = .returned (.string ⟨(full name.data.toList k (Lib.itoa n)).toArray⟩) ∧
      tk (full name.data.toList k (Lib.itoa n)) = false ∧ (∀ j, 1 ≤ j → j < k → tk (full name.data.toList j (Lib.itoa n)) = true) ∧ Below w.heap.size w w' := by
  go_enter Tryd.func6, Tryd.ntmps6
  go_wp2_with fail
  refine (later_any name n m cnt tk w0 _ hb hm hname hcnt h0 h1 htab).mono ?_
  rintro e w' ⟨k, hk1, hk2, rfl, hf, ht, hb'⟩
  have HF : Hid (tk (full name.data.toList k (Lib.itoa n)) = false) := hf
  have HT : Hid (∀ j, 1 ≤ j → j < k → tk (full name.data.toList j (Lib.itoa n)) = true) := ht
  clear hf ht
  go_wp2
  go_ret
  exact ⟨k, hk1, hk2, rfl, HF.out, HT.out, hb'⟩

end Go.Proofs.Qxb6608744aDoor
