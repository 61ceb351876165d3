import Derived.Test.Qxb6608760aLower
import Derived.Deep.QuietTactic
import Derived.BigQuiet
namespace Go.Proofs.Qxb6608760a
open Go.RowKit

/-- What 'lower' makes of a byte. -/
def lowB (c : UInt8) : UInt8 := if 65 ≤ c ∧ c ≤ 90 then c + 32 else c

theorem low_lowB_all : ((List.range 256).all fun c => decide (low ((UInt8.ofNat c).toNat : Int) = ((lowB (UInt8.ofNat c)).toNat : Int)) && !(decide (65 ≤ (lowB (UInt8.ofNat c)).toNat) && decide ((lowB (UInt8.ofNat c)).toNat ≤ 90))) = true := by decide +kernel

theorem low_lowB (c : UInt8) : low (c.toNat : Int) = ((lowB c).toNat : Int) ∧ ¬ (65 ≤ (lowB c).toNat ∧ (lowB c).toNat ≤ 90) := by
  have h := List.all_eq_true.1 low_lowB_all c.toNat (List.mem_range.2 c.toNat_lt)
  simp only [UInt8.ofNat_toNat, Bool.and_eq_true, decide_eq_true_eq, Bool.not_eq_true', Bool.and_eq_false_iff, decide_eq_false_iff_not] at h
  exact ⟨h.1, fun ⟨a, b⟩ => by rcases h.2 with h | h <;> exact h (by assumption)⟩

theorem ZZlower_byte (c : UInt8) (w : World) : Calls Try.prog 5 #[.int .u8 (c.toNat : Int)] w fun e w' => e = .returned (.int .u8 ((lowB c).toNat : Int)) ∧ w' = w := by
  have h := ZZlower_any (c.toNat : Int) (by omega) (by have := c.toNat_lt; omega) w
  rw [(low_lowB c).1] at h
  exact h
theorem lower_byte (c : UInt8) (w : World) : Calls Try.prog 10 #[.int .u8 (c.toNat : Int)] w fun e w' => e = .returned (.int .u8 ((lowB c).toNat : Int)) ∧ w' = w := by
  have h := lower_any (c.toNat : Int) (by omega) (by have := c.toNat_lt; omega) w
  rw [(low_lowB c).1] at h
  exact h

def IsBool (e : Ending) : Prop := ∃ r : Bool, e = .returned (.bool r)

set_option maxHeartbeats 400000 in
theorem bytes_any (a b : ByteArray) (ha : a.size ≤ 9223372036854775807) (hb : b.size ≤ 9223372036854775807) (w : World) :
    Calls Try.prog 6 #[.string a, .string b] w fun e w' => IsBool e ∧ w' = w := by
  go_enter Try.func6, Try.ntmps6
  go_wp2
  all_goals
    go_ret
    exact ⟨⟨_, rfl⟩, rfl⟩

set_option maxHeartbeats 400000 in
theorem hasUpper_no (s : ByteArray) (hs : s.size ≤ 9223372036854775807) (w : World) (hno : ∀ i (h : i < s.size), ¬ (65 ≤ (s[i].toNat : Int) ∧ (s[i].toNat : Int) ≤ 90)) :
    Calls Try.prog 8 #[.string s] w fun e w' => e = .returned (.bool false) ∧ w' = w := by
  have H : Hid (∀ i (h : i < s.size), ¬ (65 ≤ (s[i].toNat : Int) ∧ (s[i].toNat : Int) ≤ 90)) := hno
  clear hno
  go_enter Try.func8, Try.ntmps8
  go_wp2
  go_loop [3] (fun i => ∃ k : Nat, k ≤ s.size ∧ i = .int .i64 k) (fun i => s.size - (intOf i).toNat)
  case atStart => exact ⟨0, Nat.zero_le _, rfl⟩
  case round =>
    obtain ⟨k, hk, rfl⟩ := hrel
    by_cases hlt : k < s.size
    · have hn := H.out k hlt
      by_cases h65 : 65 ≤ (s[k].toNat : Int)
      · have h90 : 90 < (s[k].toNat : Int) := by omega
        clear hn
        go_wp2
        go_round
        case rel => exact ⟨k + 1, by omega, by go_num⟩
        case measure => simp [intOf]; omega
      · clear hn
        go_wp2
        go_round
        case rel => exact ⟨k + 1, by omega, by go_num⟩
        case measure => simp [intOf]; omega
    · go_wp2
      go_ret
      exact ⟨rfl, rfl⟩

theorem Try.info5 : (Try.prog.info? 5).map (fun i => (i.zero, i.size, i.bytes)) = some (some (.int .u8 0), 1, 1) := by kernel_rfl

/-- The bytes mapped. -/
def lowS (s : ByteArray) : List UInt8 := s.data.toList.map lowB
theorem lowS_length (s : ByteArray) : (lowS s).length = s.size := by simp [lowS]
theorem lowS_at (s : ByteArray) (k : Nat) (h : k < s.size) : (lowS s)[k]'(by rw [lowS_length]; exact h) = lowB s[k] := by
  simp [lowS]; rfl

/-- The row that the loop fills: its first k cells hold the mapped bytes. -/
def RowIs (w : World) (N : Nat) (s : ByteArray) (k : Nat) : Prop :=
  ∃ cur : Array Value, w.heap[N]? = some (.cells cur 5 (0, 0)) ∧ cur.size = s.size ∧ ∀ j (h : j < s.size), j < k → cur[j]? = some (.int .u8 ((lowB s[j]).toNat : Int))

theorem RowIs.free {w : World} {N : Nat} {s : ByteArray} {k : Nat} (h : RowIs w N s k) (j : Nat) : w.frozen? ⟨N, j, none⟩ = false := by
  obtain ⟨cur, hh, _⟩ := h
  simp [World.frozen?, hh]
theorem RowIs.old {w : World} {N : Nat} {s : ByteArray} {k : Nat} (h : RowIs w N s k) (j : Nat) (hj : j < s.size) : ∃ v, w.cell? ⟨N, j, none⟩ = some v := by
  obtain ⟨cur, hh, hs, _⟩ := h
  exact ⟨cur[j], by simp [World.cell?, hh, hs, hj]⟩
theorem RowIs.store {w : World} {N : Nat} {s : ByteArray} {k : Nat} (h : RowIs w N s k) (hk : k < s.size) : RowIs (w.setCell ⟨N, k, none⟩ (.int .u8 ((lowB s[k]).toNat : Int))) N s (k + 1) := by
  obtain ⟨cur, hh, hs, hc⟩ := h
  refine ⟨cur.setIfInBounds k (.int .u8 ((lowB s[k]).toNat : Int)), ?_, by simpa using hs, ?_⟩
  · simp [World.setCell, Array.getElem?_modify, hh]
  · intro j hj hjk
    rw [Array.getElem?_setIfInBounds]
    by_cases e : k = j
    · subst e; simp [hs, hk]
    · rw [if_neg e]; exact hc j hj (by omega)
theorem RowIs.cellAt {w : World} {N : Nat} {s : ByteArray} (h : RowIs w N s s.size) : ∀ j (hj : j < (lowS s).length), w.cell? ((⟨N, 0, none⟩ : Addr).add j) = some (.int .u8 ((lowS s)[j].toNat : Int)) := by
  obtain ⟨cur, hh, hs, hc⟩ := h
  intro j hj
  have hj' : j < s.size := by rw [← lowS_length]; exact hj
  rw [Go.WideShapes.add_plain, lowS_at s j hj']
  have := hc j hj' hj'
  simp [World.cell?, hh, this]
theorem RowIs.made {w : World} {N : Nat} {s : ByteArray} {xs : List Value} (h : w.ownsRow N 5 1 (.slice (some ⟨N, 0, none⟩) s.size s.size) s.size xs) : RowIs w N s 0 := by
  obtain ⟨_, (⟨h, _⟩ | ⟨g', cap', cur, e, _, hg, _, _, hs, _⟩)⟩ := h
  · cases h
  · cases e
    exact ⟨cur, hg, by simpa using hs, fun j _ h => by omega⟩

set_option maxHeartbeats 1000000 in
theorem lowerEach_any (s : ByteArray) (hs : s.size ≤ 65536) (w : World) :
    Calls Try.prog 7 #[.string s] w fun e w' => e = .returned (.string ⟨(lowS s).toArray⟩) ∧ Below w.heap.size w w' := by
  obtain ⟨i0, hi, hz0, hz1, hz2⟩ := info_parts Try.info5
  go_enter Try.func7, Try.ntmps7
  go_wp2_with (at_make; refine wpList_make_full _ rfl (.tmp 6) (.tmp 6) 27 rfl w.heap.size 5 i0 (.int .u8 0) 1 Try.underlying27 hi hz0 hz1 .i64 .i64 _ _ s.size rfl rfl rfl rfl (by rw [hz2]; omega) (by unfold maxLen; omega) (Nat.le_refl _) ?_; intro w1 hown1 hgrow1; have hR1 := RowIs.made hown1; have hb1 := (Below.refl w.heap.size w).grown hgrow1 (Nat.le_refl _) (by simp); clear hown1 hgrow1)
  go_loopw [4] (fun i wr => ∃ k : Nat, k ≤ s.size ∧ i = .int .i64 k ∧ RowIs wr w.heap.size s k ∧ Below w.heap.size w wr) (fun i _ => s.size - (intOf i).toNat)
  case atStart => exact ⟨0, Nat.zero_le _, rfl, hR1, hb1⟩
  case round =>
    obtain ⟨k, hk, rfl, hR, hb⟩ := hrel
    by_cases hlt : k < s.size
    · obtain ⟨ov, hov⟩ := hR.old k hlt
      have hfr := hR.free k
      go_wp2_with (go_at_call 5; refine (ZZlower_byte _ _).mono ?_; rintro e wx ⟨rfl, hwx⟩; subst wx)
      go_roundw
      case rel => exact ⟨k + 1, by omega, by go_num, hR.store hlt, hb.setCell (Nat.le_refl _) _⟩
      case measure => simp [intOf]; omega
    · obtain rfl : k = s.size := by omega
      have hconv := run_convert_bytes_back (P := Try.prog) wr 27 9 5 ⟨w.heap.size, 0, none⟩ s.size (lowS s) Try.underlying27 Try.underlying5 Try.underlying9 hR.cellAt
      rw [lowS_length] at hconv
      clear hR
      go_wp2
      go_ret
      exact ⟨rfl, hb⟩

theorem lowS_ne_of_size {a b : ByteArray} (h : a.size ≠ b.size) : (lowS a == lowS b) = false := by
  refine beq_eq_false_iff_ne.2 fun e => h ?_
  have := congrArg List.length e
  rwa [lowS_length, lowS_length] at this

theorem lowS_eq_of {a b : ByteArray} (h : a.size = b.size) (hall : ∀ j (ha : j < a.size) (hb : j < b.size), lowB a[j] = lowB b[j]) : (lowS a == lowS b) = true := by
  rw [beq_iff_eq]
  refine List.ext_getElem (by rw [lowS_length, lowS_length, h]) fun j h1 h2 => ?_
  rw [lowS_at a j (by rw [← lowS_length]; exact h1), lowS_at b j (by rw [← lowS_length]; exact h2)]
  exact hall j _ _

theorem lowS_ne_of {a b : ByteArray} (j : Nat) (ha : j < a.size) (hb : j < b.size) (hne : lowB a[j] ≠ lowB b[j]) : (lowS a == lowS b) = false := by
  refine beq_eq_false_iff_ne.2 fun e => hne ?_
  rw [← lowS_at a j ha, ← lowS_at b j hb]
  simp only [e]

theorem ret_bool {a b : Bool} (h : a = b) : Ending.returned (.bool a) = .returned (.bool b) := by rw [h]

set_option maxHeartbeats 1000000 in
theorem equalFold_any (a b : ByteArray) (ha : a.size ≤ 9223372036854775807) (w : World) :
    Calls Try.prog 9 #[.string a, .string b] w fun e w' => e = .returned (.bool (lowS a == lowS b)) ∧ ∃ n, w' = w.drewN n := by
  by_cases hab : (a.toList == b.toList) = true
  · have e : (lowS a == lowS b) = true := by
      rw [ByteArray.toList_eq, ByteArray.toList_eq, beq_iff_eq] at hab
      simp [lowS, hab]
    have E : Hid ((lowS a == lowS b) = true) := e
    clear e
    go_enter Try.func9, Try.ntmps9
    go_wp2
    go_ret
    exact ⟨ret_bool E.out.symm, 0, rfl⟩
  have hab' : (a.toList == b.toList) = false := by simpa using hab
  clear hab
  by_cases hsz : a.size = b.size
  · have hsz' : ((a.size : Int) != (b.size : Int)) = false := by simp [hsz]
    have HS : Hid (a.size = b.size) := hsz
    have hle : a.size ≤ b.size := by omega
    have hge : b.size ≤ a.size := by omega
    clear hsz
    go_enter Try.func9, Try.ntmps9
    go_wp2
    go_loopw [5] (fun i wr => ∃ k n : Nat, k ≤ a.size ∧ i = .int .i64 k ∧ wr = w.drewN n ∧ Hid (∀ j (ha : j < a.size) (hb : j < b.size), j < k → lowB a[j] = lowB b[j])) (fun i _ => a.size - (intOf i).toNat)
    case atStart => exact ⟨0, 0, Nat.zero_le _, rfl, rfl, fun j _ _ h => by omega⟩
    case round =>
      obtain ⟨k, n, hk, rfl, hwr, HA⟩ := hrel
      have HW : Hid (wr = w.drewN n) := hwr
      clear hwr
      by_cases hlt : k < a.size
      · have hlt2 : k < b.size := by omega
        have hltI : (k : Int) < (a.size : Int) := by omega
        have hlt2I : (k : Int) < (b.size : Int) := by omega
        go_wp2
        go_quiet (fail)
        have HW2 : Hid (wr.drewN nq = w.drewN (n + nq)) := by show _ = _; rw [HW.out]; simp
        by_cases he : a[k] = b[k]
        · have hne : ((a[k].toNat : Int) != (b[k].toNat : Int)) = false := by simp [he]
          have HA2 : Hid (∀ j (ha : j < a.size) (hb : j < b.size), j < k + 1 → lowB a[j] = lowB b[j]) := fun j h1 h2 h3 => by
            by_cases e : j = k
            · subst e; rw [he]
            · exact HA.out j h1 h2 (by omega)
          clear he
          go_wp2
          go_roundw
          case rel => exact ⟨k + 1, n + nq, by omega, by go_num, HW2.out, HA2.out⟩
          case measure => simp [intOf]; omega
        · have hne : ((a[k].toNat : Int) != (b[k].toNat : Int)) = true := by
            rw [bne_iff_ne]
            intro e
            exact he (UInt8.toNat_inj.1 (by omega))
          clear he
          by_cases hl : lowB a[k] = lowB b[k]
          · have hle2 : (((lowB a[k]).toNat : Int) != ((lowB b[k]).toNat : Int)) = false := by simp [hl]
            have HA2 : Hid (∀ j (ha : j < a.size) (hb : j < b.size), j < k + 1 → lowB a[j] = lowB b[j]) := fun j h1 h2 h3 => by
              by_cases e : j = k
              · subst e; exact hl
              · exact HA.out j h1 h2 (by omega)
            clear hl
            go_wp2_with (go_at_call 10; refine (lower_byte _ _).mono ?_; rintro e wx ⟨rfl, hwx⟩; subst wx)
            go_roundw
            case rel => exact ⟨k + 1, n + nq, by omega, by go_num, HW2.out, HA2.out⟩
            case measure => simp [intOf]; omega
          · have hle2 : (((lowB a[k]).toNat : Int) != ((lowB b[k]).toNat : Int)) = true := by
              rw [bne_iff_ne]
              intro e
              exact hl (UInt8.toNat_inj.1 (by omega))
            have E : Hid ((lowS a == lowS b) = false) := lowS_ne_of k hlt hlt2 hl
            clear hl
            go_wp2_with (go_at_call 10; refine (lower_byte _ _).mono ?_; rintro e wx ⟨rfl, hwx⟩; subst wx)
            go_ret
            exact ⟨ret_bool E.out.symm, _, HW2.out⟩
      · have E : Hid ((lowS a == lowS b) = true) := lowS_eq_of HS.out fun j h1 h2 => HA.out j h1 h2 (by omega)
        go_wp2
        go_ret
        exact ⟨ret_bool E.out.symm, _, HW.out⟩
  · have hsz' : ((a.size : Int) != (b.size : Int)) = true := by simp; omega
    have E : Hid ((lowS a == lowS b) = false) := lowS_ne_of_size hsz
    clear hsz
    go_enter Try.func9, Try.ntmps9
    go_wp2
    go_ret
    exact ⟨ret_bool E.out.symm, 0, rfl⟩

theorem lowS_no (s : ByteArray) : ∀ i (h : i < (⟨(lowS s).toArray⟩ : ByteArray).size), ¬ (65 ≤ (((⟨(lowS s).toArray⟩ : ByteArray)[i]).toNat : Int) ∧ (((⟨(lowS s).toArray⟩ : ByteArray)[i]).toNat : Int) ≤ 90) := by
  intro i h
  have hi : i < (lowS s).length := by simpa [ByteArray.size] using h
  have e : (⟨(lowS s).toArray⟩ : ByteArray)[i] = (lowS s)[i] := rfl
  rw [e, lowS_at s i (by rw [← lowS_length]; exact hi)]
  have := (low_lowB (s[i]'(by rw [← lowS_length]; exact hi))).2
  omega

set_option maxHeartbeats 1000000 in
theorem fold_in (a b : ByteArray) (ha : a.size ≤ 65536) (hb : b.size ≤ 65536) (w : World) :
    Calls Try.prog 4 #[.string a, .string b] w fun e w' => e = .returned (.bool true) ∧ Below w.heap.size w w' := by
  go_enter Try.func4, Try.ntmps4
  go_wp2_with fail
  refine (bytes_any a b (by omega) (by omega) _).mono ?_
  rintro e wx ⟨⟨r, rfl⟩, hwx⟩
  subst wx
  cases r
  · go_wp2
    go_ret
    exact ⟨rfl, Below.refl _ _⟩
  go_wp2_with fail
  refine (lowerEach_any a ha _).mono ?_
  rintro e w1 ⟨rfl, hb1⟩
  obtain ⟨la, hla⟩ : ∃ x : ByteArray, (⟨(lowS a).toArray⟩ : ByteArray) = x := ⟨_, rfl⟩
  have hno1 := lowS_no a
  rw [hla] at hno1
  have LA : Hid (la.data.toList = lowS a) := by show _ = _; rw [← hla]
  rw [hla]
  clear hla
  have N1 : Hid (∀ i (h : i < la.size), ¬ (65 ≤ (la[i].toNat : Int) ∧ (la[i].toNat : Int) ≤ 90)) := hno1
  clear hno1
  have hlas : la.size = a.size := by have := congrArg List.length LA.out; rw [lowS_length] at this; simpa using this
  go_wp2_with fail
  refine (lowerEach_any b hb _).mono ?_
  rintro e w2 ⟨rfl, hb2'⟩
  have hb2 : Below w.heap.size w w2 := hb1.trans (hb2'.mono hb1.size)
  obtain ⟨lb, hlb⟩ : ∃ x : ByteArray, (⟨(lowS b).toArray⟩ : ByteArray) = x := ⟨_, rfl⟩
  have hno2 := lowS_no b
  rw [hlb] at hno2
  have LB : Hid (lb.data.toList = lowS b) := by show _ = _; rw [← hlb]
  rw [hlb]
  clear hlb
  have N2 : Hid (∀ i (h : i < lb.size), ¬ (65 ≤ (lb[i].toNat : Int) ∧ (lb[i].toNat : Int) ≤ 90)) := hno2
  clear hno2 hb2'
  have hlbs : lb.size = b.size := by have := congrArg List.length LB.out; rw [lowS_length] at this; simpa using this
  have hne : ((la.size : Int) != (a.size : Int)) = false := by simp [hlas]
  have hl1 : la.size ≤ 65536 := by omega
  have hl2 : lb.size ≤ 65536 := by omega
  have HEQ : Hid ((la.toList == lb.toList) = (lowS a == lowS b)) := by
    show _ = _
    rw [ByteArray.toList_eq, ByteArray.toList_eq, LA.out, LB.out]
  clear hlas hlbs
  go_wp2_with fail
  refine (hasUpper_no la (by omega) _ N1.out).mono ?_
  rintro e wx ⟨rfl, hwx⟩
  subst wx
  go_wp2_with fail
  refine (hasUpper_no lb (by omega) _ N2.out).mono ?_
  rintro e wx ⟨rfl, hwx⟩
  subst wx
  go_wp2_with fail
  refine (equalFold_any a b (by omega) _).mono ?_
  rintro e w3 ⟨rfl, q, hw3⟩
  have hb3 : Below w.heap.size w w3 := by rw [hw3]; exact below_drewN hb2 q
  clear hw3
  cases hr : (lowS a == lowS b)
  · have hc : (la.toList == lb.toList) = false := HEQ.out.trans hr
    clear hr
    go_wp2
    go_ret
    exact ⟨rfl, hb3⟩
  · have hc : (la.toList == lb.toList) = true := HEQ.out.trans hr
    clear hr
    go_wp2
    go_ret
    exact ⟨rfl, hb3⟩

set_option maxHeartbeats 400000 in
theorem fold_edge (a b : ByteArray) (ha : a.size ≤ 9223372036854775807) (hb : b.size ≤ 9223372036854775807) (w : World) (hno : 65536 < a.size ∨ (a.size ≤ 65536 ∧ 65536 < b.size)) :
    Calls Try.prog 4 #[.string a, .string b] w fun e w' => e = .returned (.bool true) ∧ Below w.heap.size w w' := by
  rcases hno with h | ⟨h, h'⟩
  all_goals
    go_enter Try.func4, Try.ntmps4
    go_wp2_with fail
    refine (bytes_any a b (by omega) (by omega) _).mono ?_
    rintro e wx ⟨⟨r, rfl⟩, hwx⟩
    subst wx
    cases r
    · go_wp2
      go_ret
      exact ⟨rfl, Below.refl _ _⟩
    · go_wp2
      go_ret
      exact ⟨rfl, Below.refl _ _⟩

end Go.Proofs.Qxb6608760a
