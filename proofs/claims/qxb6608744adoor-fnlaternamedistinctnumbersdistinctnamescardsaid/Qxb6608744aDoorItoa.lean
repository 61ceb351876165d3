import Derived.Test.Qxb6608744aDoorRows
import Derived.Lib.ItoaMem
import Derived.Lib.ItoaLen
import Derived.WalkKit
import Derived.WalkSpells
import Derived.WalkLawsBesides
namespace Go.Proofs.Qxb6608744aDoor
open Go.RowKit

/-- What is still to be written, ahead of what has been. -/
def decAcc (u : Nat) (suf : List UInt8) : List UInt8 := if u = 0 then suf else Lib.decDigits u ++ suf

theorem decAcc_step (u : Nat) (h : 0 < u) (suf : List UInt8) : decAcc (u / 10) (UInt8.ofNat (48 + u % 10) :: suf) = decAcc u suf := by
  unfold decAcc
  rw [if_neg (show ¬ u = 0 by omega)]
  by_cases h10 : u < 10
  · rw [if_pos (by omega), Lib.decDigits_one h10, Nat.mod_eq_of_lt h10]; rfl
  · rw [if_neg (by omega)]
    conv => rhs; rw [Lib.decDigits, dif_neg h10]
    simp

/-- The buffer: 24 cells, those from 'i' on hold 'suf'. -/
def BufIs (w : World) (N i : Nat) (suf : List UInt8) : Prop :=
  ∃ cur : Array Value, w.heap[N]? = some (.cells cur 28 (0, 0)) ∧ cur.size = 24 ∧ suf.length + i = 24 ∧ ∀ t (h : t < suf.length), cur[i + t]? = some (.int .u8 (suf[t].toNat : Int))

theorem BufIs.free {w : World} {N i : Nat} {suf : List UInt8} (h : BufIs w N i suf) (j : Nat) : w.frozen? ⟨N, j, none⟩ = false := by
  obtain ⟨cur, hh, _⟩ := h
  simp [World.frozen?, hh]
theorem BufIs.old {w : World} {N i : Nat} {suf : List UInt8} (h : BufIs w N i suf) (j : Nat) (hj : j < 24) : ∃ v, w.cell? ⟨N, j, none⟩ = some v := by
  obtain ⟨cur, hh, hs, _⟩ := h
  exact ⟨cur[j], by simp [World.cell?, hh, hs, hj]⟩
theorem BufIs.store {w : World} {N i : Nat} {suf : List UInt8} (h : BufIs w N (i + 1) suf) (c : UInt8) : BufIs (w.setCell ⟨N, i, none⟩ (.int .u8 (c.toNat : Int))) N i (c :: suf) := by
  obtain ⟨cur, hh, hs, hl, hc⟩ := h
  refine ⟨cur.setIfInBounds i (.int .u8 (c.toNat : Int)), ?_, by simpa using hs, by simp; omega, ?_⟩
  · simp [World.setCell, Array.getElem?_modify, hh]
  · intro t ht
    rcases t with _ | t
    · simp [Array.getElem?_setIfInBounds]; omega
    · have ht' : t < suf.length := by simpa using ht
      have := hc t ht'
      rw [Array.getElem?_setIfInBounds, if_neg (by omega)]
      rw [show i + (t + 1) = i + 1 + t by omega, this]
      simp
theorem BufIs.cellAt {w : World} {N i : Nat} {suf : List UInt8} (h : BufIs w N i suf) : ∀ j (hj : j < suf.length), w.cell? ((⟨N, i, none⟩ : Addr).add j) = some (.int .u8 (suf[j].toNat : Int)) := by
  obtain ⟨cur, hh, hs, hl, hc⟩ := h
  intro j hj
  rw [Lib.add_plain]
  simp [World.cell?, hh, hc j hj]

theorem BufIs.fresh (w : World) : BufIs (w.alloc (.cells (Array.replicate 24 (.int .u8 0)) 28)) w.heap.size 24 [] :=
  ⟨Array.replicate 24 (.int .u8 0), heap_alloc_new _ _, by simp, by simp, fun t h => by simp at h⟩

theorem pow20 (u : Nat) (h2 : u ≤ 9223372036854775808) : u < 10 ^ (24 - 4) := by
  have : (10 : Nat) ^ (24 - 4) = 100000000000000000000 := by decide
  omega

theorem pow_step (v i : Nat) (h0 : 0 < v) (h : v < 10 ^ (i - 4)) : 5 ≤ i ∧ v / 10 < 10 ^ (i - 1 - 4) := by
  have hi : 5 ≤ i := by
    rcases Nat.lt_or_ge i 5 with h5 | h5
    · rw [show i - 4 = 0 by omega] at h; simp at h; omega
    · exact h5
  refine ⟨hi, ?_⟩
  rw [show i - 4 = (i - 1 - 4) + 1 by omega, Nat.pow_succ] at h
  exact Nat.div_lt_of_lt_mul (by rw [Nat.mul_comm]; exact h)

theorem digit_byte (v : Nat) : ((UInt8.ofNat (48 + v % 10)).toNat : Int) = 48 + (v : Int) % 10 := by
  have h : v % 10 < 10 := Nat.mod_lt _ (by decide)
  have e : (UInt8.ofNat (48 + v % 10)).toNat = 48 + v % 10 := by
    simp [UInt8.toNat_ofNat']; omega
  rw [e]; omega

theorem ret_str {a b : List UInt8} (h : a = b) : Ending.returned (.string ⟨a.toArray⟩) = .returned (.string ⟨b.toArray⟩) := by rw [h]

theorem slice_buf (W : World) (N i : Nat) (hi : i < 24) :
    (Instr.sliceAt 28 (.pointer (some ⟨N, 0, none⟩)) (some (.int .i64 (i : Int))) none none).run Tryd.prog W = .ok (.slice (some ⟨N, i, none⟩) (24 - i) (24 - i)) W := by
  have hal : Tryd.prog.arrayLen 28 = 24 := by simp [Program.arrayLen, Tryd.underlying28]
  rw [run_sliceAt_array_l W 28 ⟨N, 0, none⟩ (by simp [Program.arrayLen, Program.elem, Tryd.underlying28]) .i64 (i : Int) (by omega) (by rw [hal]; omega)]
  go_simp
  omega

set_option maxHeartbeats 400000 in
theorem zzItoa_pos (u : Nat) (h1 : 1 ≤ u) (h2 : u ≤ 9223372036854775807) (w : World) :
    Calls Tryd.prog 5 #[.int .i64 u] w fun e w' => e = .returned (.string ⟨(Lib.decDigits u).toArray⟩) ∧ Below w.heap.size w w' := by
  have hd : decide ((u : Int) < 0) = false := by simp
  have hz : ((u : Int) == 0) = false := by simp; omega
  go_enter Tryd.func5, Tryd.ntmps5
  go_wp2
  go_loopw [4, 6] (fun tv ti wr => ∃ (v i : Nat) (suf : List UInt8), tv = .int .u64 v ∧ ti = .int .i64 i ∧ 4 ≤ i ∧ i ≤ 24 ∧ Hid (v < 10 ^ (i - 4)) ∧ v ≤ 9223372036854775807 ∧ Hid (decAcc v suf = Lib.decDigits u) ∧ BufIs wr w.heap.size i suf ∧ Below w.heap.size w wr)
    (fun _ ti _ => (intOf ti).toNat)
  case atStart => exact ⟨u, 24, [], rfl, rfl, by omega, Nat.le_refl _, pow20 u (by omega), h2, by show decAcc u [] = _; simp [decAcc]; omega, BufIs.fresh w, (Below.refl _ _).alloc (Nat.le_refl _) _⟩
  case round =>
    obtain ⟨v, i, suf, rfl, rfl, hi4, hi, HP, hv, HA, hB, hb⟩ := hrel
    by_cases hv0 : 0 < v
    · obtain ⟨h5, HP'⟩ := pow_step v i hv0 HP.out
      obtain ⟨j, rfl⟩ : ∃ j, i = j + 1 := ⟨i - 1, by omega⟩
      obtain ⟨ov, hov⟩ := hB.old j (by omega)
      have hfr := hB.free j
      have HP2 : Hid (v / 10 < 10 ^ (j + 1 - 1 - 4)) := HP'
      clear HP'
      go_wp2
      go_roundw
      case rel =>
        refine ⟨v / 10, j, UInt8.ofNat (48 + v % 10) :: suf, by go_num, rfl, by omega, by omega, HP2.out, by omega, (decAcc_step v hv0 suf).trans HA.out, ?_, ?_⟩
        · rw [← digit_byte]; exact hB.store _
        · exact hb.setCell (Nat.le_refl _) _
      case measure => simp [intOf]
    · have hv' : v = 0 := by omega
      subst hv'
      have hsuf : suf = Lib.decDigits u := by have := HA.out; simpa [decAcc] using this
      have hl : suf.length = 24 - i := by obtain ⟨_, _, _, hl, _⟩ := hB; omega
      have hpos : 0 < suf.length := by rw [hsuf, Lib.decDigits_length]; exact Lib.nDigits_pos u
      have hconv := run_convert_bytes_back (P := Tryd.prog) wr 29 9 5 ⟨w.heap.size, i, none⟩ (24 - i) suf Tryd.underlying29 Tryd.underlying5 Tryd.underlying9 hB.cellAt
      rw [hl] at hconv
      have hi24 : i < 24 := by omega
      have HS : Hid (suf = Lib.decDigits u) := hsuf
      have hsl := fun W => slice_buf W w.heap.size i hi24
      clear hsuf HA HP hB
      go_wp2
      go_ret
      exact ⟨ret_str HS.out, hb⟩

set_option maxHeartbeats 400000 in
theorem zzItoa_neg (u : Nat) (h1 : 1 ≤ u) (h2 : u ≤ 9223372036854775808) (w : World) :
    Calls Tryd.prog 5 #[.int .i64 (-(u : Int))] w fun e w' => e = .returned (.string ⟨(45 :: Lib.decDigits u).toArray⟩) ∧ Below w.heap.size w w' := by
  have hd : decide (-(u : Int) < 0) = true := by simp; omega
  have hz : (-(u : Int) == 0) = false := by simp; omega
  go_enter Tryd.func5, Tryd.ntmps5
  go_wp2
  go_loopw [4, 6] (fun tv ti wr => ∃ (v i : Nat) (suf : List UInt8), tv = .int .u64 v ∧ ti = .int .i64 i ∧ 4 ≤ i ∧ i ≤ 24 ∧ Hid (v < 10 ^ (i - 4)) ∧ v ≤ 9223372036854775808 ∧ Hid (decAcc v suf = Lib.decDigits u) ∧ BufIs wr w.heap.size i suf ∧ Below w.heap.size w wr)
    (fun _ ti _ => (intOf ti).toNat)
  case atStart => exact ⟨u, 24, [], by go_num, rfl, by omega, Nat.le_refl _, pow20 u (by omega), h2, by show decAcc u [] = _; simp [decAcc]; omega, BufIs.fresh w, (Below.refl _ _).alloc (Nat.le_refl _) _⟩
  case round =>
    obtain ⟨v, i, suf, rfl, rfl, hi4, hi, HP, hv, HA, hB, hb⟩ := hrel
    by_cases hv0 : 0 < v
    · obtain ⟨h5, HP'⟩ := pow_step v i hv0 HP.out
      obtain ⟨j, rfl⟩ : ∃ j, i = j + 1 := ⟨i - 1, by omega⟩
      obtain ⟨ov, hov⟩ := hB.old j (by omega)
      have hfr := hB.free j
      have HP2 : Hid (v / 10 < 10 ^ (j + 1 - 1 - 4)) := HP'
      clear HP'
      go_wp2
      go_roundw
      case rel =>
        refine ⟨v / 10, j, UInt8.ofNat (48 + v % 10) :: suf, by go_num, rfl, by omega, by omega, HP2.out, by omega, (decAcc_step v hv0 suf).trans HA.out, ?_, ?_⟩
        · rw [← digit_byte]; exact hB.store _
        · exact hb.setCell (Nat.le_refl _) _
      case measure => simp [intOf]
    · have hv' : v = 0 := by omega
      subst hv'
      have hsuf : suf = Lib.decDigits u := by have := HA.out; simpa [decAcc] using this
      obtain ⟨j, rfl⟩ : ∃ j, i = j + 1 := ⟨i - 1, by omega⟩
      have hl : suf.length = 24 - (j + 1) := by obtain ⟨_, _, _, hl, _⟩ := hB; omega
      have hB' := hB.store 45
      have hl2 : (45 :: suf).length = 24 - j := by simp; omega
      have hconv := run_convert_bytes_back (P := Tryd.prog) _ 29 9 5 ⟨w.heap.size, j, none⟩ (24 - j) (45 :: suf) Tryd.underlying29 Tryd.underlying5 Tryd.underlying9 hB'.cellAt
      rw [hl2] at hconv
      rw [show ((45 : UInt8).toNat : Int) = 45 from rfl] at hconv
      obtain ⟨ov, hov⟩ := hB.old j (by omega)
      have hfr := hB.free j
      have HS : Hid (suf = Lib.decDigits u) := hsuf
      have hsl := fun W => slice_buf W w.heap.size j (by omega)
      clear hsuf HA HP hB hB' hl hl2
      go_wp2
      go_ret
      exact ⟨ret_str (by rw [HS.out]), hb.setCell (Nat.le_refl _) _⟩

theorem zzItoa_zero (w : World) : Calls Tryd.prog 5 #[.int .i64 0] w fun e w' => e = .returned (.string ⟨#[48]⟩) ∧ w' = w := by
  go_enter Tryd.func5, Tryd.ntmps5
  go_wp2
  go_ret
  exact ⟨rfl, rfl⟩

/-- The law's own Itoa writes what strconv's does. -/
theorem zzItoa_any (n : Int) (h0 : -9223372036854775808 ≤ n) (h1 : n ≤ 9223372036854775807) (w : World) :
    Calls Tryd.prog 5 #[.int .i64 n] w fun e w' => e = .returned (.string ⟨(Lib.itoa n).toArray⟩) ∧ Below w.heap.size w w' := by
  rcases Int.lt_trichotomy n 0 with h | rfl | h
  · obtain ⟨u, rfl⟩ : ∃ u : Nat, n = -(u : Int) := ⟨(-n).toNat, by omega⟩
    rw [Lib.itoa_neg u (by omega)]
    exact zzItoa_neg u (by omega) (by omega) w
  · refine (zzItoa_zero w).mono ?_
    rintro e w' ⟨rfl, rfl⟩
    exact ⟨by rw [show Lib.itoa 0 = [48] from Lib.decDigits_one (by decide)], Below.refl _ _⟩
  · obtain ⟨u, rfl⟩ : ∃ u : Nat, n = (u : Int) := ⟨n.toNat, by omega⟩
    rw [Lib.itoa_nonneg u]
    exact zzItoa_pos u (by omega) (by omega) w

end Go.Proofs.Qxb6608744aDoor
