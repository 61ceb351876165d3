import Derived.Test.Qxb6608744aCells
namespace Go.Proofs.Qxb6608744a
open Go.RowKit

set_option maxRecDepth 100000 in
set_option maxHeartbeats 1000000 in
theorem main_edge (s0 s1 s2 s3 s5 : ByteArray) (k6 : Int) (a : Option Addr) (len cap : Nat) (ss : List ByteArray) (w : World)
    (h0 : s0.size ≤ 9223372036854775807) (h1 : s1.size ≤ 9223372036854775807) (h2 : s2.size ≤ 9223372036854775807) (h3 : s3.size ≤ 9223372036854775807) (h5 : s5.size ≤ 9223372036854775807)
    (hlen : len ≤ 9223372036854775807)
    (hno : 4096 < len ∨ (len ≤ 4096 ∧ 65536 < s5.size) ∨ (len ≤ 4096 ∧ s5.size ≤ 65536 ∧ k6 < 0) ∨ (len ≤ 4096 ∧ s5.size ≤ 65536 ∧ (len : Int) < k6))
    (hl : ss.length = len) (hsz : ∀ s ∈ ss, s.size ≤ 9223372036854775807)
    (hc : StrsAt w a ss) :
    Calls Try.prog 3 #[.string s0, .string s1, .string s2, .string s3, .slice a len cap, .string s5, .int .i64 k6] w fun e w' => e = .returned (.bool true) ∧ Below w.heap.size w w' := by
  rcases hno with h | ⟨h, h'⟩ | ⟨h, h', h''⟩ | ⟨h, h', h''⟩
  all_goals
    go_enter Try.func3, Try.ntmps3
    go_wp2_with fail
    refine (bytes_any s0 s1 s2 s3 s5 k6 a len cap ss _ h0 h1 h2 h3 h5 hl (by omega) hsz hc).mono ?_
    rintro e w' ⟨⟨r, rfl⟩, hw'⟩
    subst w'
    cases r
    · go_wp2
      go_ret
      exact ⟨rfl, Below.refl _ _⟩
    · go_wp2
      all_goals
        go_ret
        exact ⟨rfl, Below.refl _ _⟩

theorem strs_none (w : World) : StrsAt w none [] := by intro i hi; simp at hi

set_option maxHeartbeats 400000 in
theorem ZZparse_none (t n f p : ByteArray) (L : Nat) (w : World) (hL : w.heap[L]? = some (lineObj t n f p)) :
    Calls Try.prog 8 #[.pointer (some ⟨L, 0, none⟩), .slice none 0 0] w fun e w' => (∃ x, e = .returned (.iface 40 x)) ∧ w'.heap[L]? = some (lineObj t n f p) ∧ Below L w w' := by
  have H : Hid (Calls Try.prog 11 #[.pointer (some ⟨L, 0, none⟩), .slice none 0 0] w fun e w' => (∃ x, e = .returned (.iface 40 x)) ∧ w'.heap[L]? = some (lineObj t n f p) ∧ Below L w w') :=
    parse_no none 0 0 [] t n f p L w rfl hL (lt_of_heap hL) (strs_none w) rfl
  clear hL
  go_enter Try.func8, Try.ntmps8
  go_wp2_with fail
  refine H.out.mono ?_
  rintro e w' ⟨⟨x, rfl⟩, h2, h3⟩
  have H2 : Hid (w'.heap[L]? = some (lineObj t n f p)) := h2
  clear h2
  go_wp2
  go_ret
  exact ⟨⟨x, rfl⟩, H2.out, h3⟩

theorem isMove_none (w : World) : Calls Try.prog 10 #[.slice none 0 0] w fun e w' => e = .returned (.bool false) ∧ w' = w :=
  isMove_any none 0 0 [] w rfl (strs_none w)

/-- What the rest of the call leans on where 'args' is nil: old memory is as it was; the one row lies at block 'N'. -/
structure Sn (w0 w : World) (ts : List ByteArray) : Prop where
  below : Below w0.heap.size w0 w
  rowI : w.heap[w0.heap.size]? = some (.cells (cellsOf ts).toArray 9 (0, 0))

theorem Sn.alloc {w0 w : World} {ts : List ByteArray} (h : Sn w0 w ts) (o : Obj) : Sn w0 (w.alloc o) ts :=
  ⟨h.below.alloc h.below.size _, (Below.heap_alloc _ _ _ (lt_of_heap h.rowI)).trans h.rowI⟩
theorem Sn.later {w0 w w' : World} {L : Nat} {ts : List ByteArray} (h : Sn w0 w ts) (hb : Below L w w') (hL : w0.heap.size < L) : Sn w0 w' ts :=
  ⟨h.below.trans (hb.mono (by omega)), below_heap hb hL h.rowI⟩
theorem Sn.drewN {w0 w : World} {ts : List ByteArray} (h : Sn w0 w ts) (k : Nat) : Sn w0 (w.drewN k) ts :=
  ⟨below_drewN h.below k, h.rowI⟩

set_option maxRecDepth 100000 in
set_option maxHeartbeats 2000000 in
theorem main_nil (s0 s1 s2 s3 s5 : ByteArray) (w : World)
    (h0 : s0.size ≤ 9223372036854775807) (h1 : s1.size ≤ 9223372036854775807) (h2 : s2.size ≤ 9223372036854775807) (h3 : s3.size ≤ 9223372036854775807) (h5 : s5.size ≤ 9223372036854775807)
    (h5' : s5.size ≤ 65536) :
    Calls Try.prog 3 #[.string s0, .string s1, .string s2, .string s3, .slice none 0 0, .string s5, .int .i64 0] w fun e w' => e = .returned (.bool true) ∧ Below w.heap.size w w' := by
  have hnil := fun w => run_neq_slice_nil_any (P := Try.prog) w 22 9 none 0 0 0 0 Try.underlying22
  obtain ⟨i0, hi, hz0, hz1, hz2⟩ := info_parts Try.info9
  go_enter Try.func3, Try.ntmps3
  go_wp2_with fail
  refine (bytes_any s0 s1 s2 s3 s5 0 none 0 0 [] _ h0 h1 h2 h3 h5 rfl (by omega) (by simp) (strs_none _)).mono ?_
  rintro e w' ⟨⟨r, rfl⟩, hw'⟩
  subst w'
  cases r
  · go_wp2
    go_ret
    exact ⟨rfl, Below.refl _ _⟩
  go_wp2_with (first
    | (go_at_call 5; refine (add_any _ _ _ (by omega) (by omega) (by omega) (by omega)).mono ?_; rintro e wx ⟨⟨r, hr1, hr2, rfl⟩, hwx⟩; subst wx)
    | (go_at_call 6; refine (argsBytes_any _ none 0 0 [] _ (by omega) (by omega) rfl (by omega) (by simp) (strs_none _)).mono ?_; rintro e wx ⟨⟨r, hr1, hr2, rfl⟩, hwx⟩; subst wx)
    | (at_make; refine wpList_make_own _ rfl (.const (.int .i64 0)) (.tmp 93) 22 rfl w.heap.size 9 i0 (.string ByteArray.empty) 1 Try.underlying22 hi hz0 hz1 .i64 .i64 _ 1 rfl rfl (by omega) (by rw [hz2]; omega) (by unfold maxLen; omega) (Nat.le_refl _) ?_; intro w3 hown3 hgrow3)
    | (at_builtin; refine wpList_append_fits_any _ rfl (.tmp 95) (.tmp 98) 22 rfl w.heap.size 9 i0 1 Try.underlying22 hi hz1 w.heap.size 0 1 [] rfl hown3 _ 0 0 [] rfl rfl (by simp) (by simp) (by simp) (by omega) ?_; intro w4 hown4 hgrow4; simp only [Nat.zero_add, List.nil_append] at hown4)
    | (at_builtin; refine wpList_append_fits _ rfl (.tmp 100) (.tmp 102) 22 rfl w.heap.size 9 i0 1 Try.underlying22 hi hz1 w.heap.size 0 1 [] rfl (hown4.alloc _) ⟨w4.heap.size, 0, none⟩ 1 1 [.string s5] rfl rfl (cell_one_new _ _ _) (one_str _) (by omega) ?_; intro w5 hown5 hgrow5; simp only [Nat.zero_add, List.nil_append] at hown5)
    | (at_builtin; refine wpList_append_fits_any _ rfl (.tmp 104) (.tmp 107) 22 rfl w.heap.size 9 i0 1 Try.underlying22 hi hz1 w.heap.size 1 1 _ rfl hown5 _ 0 0 [] rfl rfl (by simp) (by simp) (by simp) (by omega) ?_; intro w6 hown6 hgrow6))
  · go_ret
    exact ⟨rfl, Below.refl _ _⟩
  · have hb3 := (Below.refl w.heap.size w).grown hgrow3 (Nat.le_refl _) (by simp)
    have hs3 := hgrow3.size
    have hb4 := hb3.grown hgrow4 (by omega) (by intro j e; cases e; omega)
    have hs4 := hgrow4.size
    have hb5 := (hb4.alloc (by omega) _).grown hgrow5 (by simp; omega) (by intro j e; cases e; omega)
    have hs5 := hgrow5.size
    have hs4' : (w4.alloc (.cells #[.string s5] 9)).heap.size = w4.heap.size + 1 := by simp
    have hb6 := hb5.grown hgrow6 (by omega) (by intro j e; cases e; omega)
    have S6 : Sn w w6 [s5] := ⟨hb6, row_of_full (ts := [s5]) hown6 rfl⟩
    have hs26 : w.heap.size < w6.heap.size := lt_of_heap S6.rowI
    clear hb3 hb4 hb5 hb6 hgrow3 hgrow4 hgrow5 hgrow6 hown3 hown4 hown5 hown6 hs3 hs4 hs4' hs5
    refine (newLine_any s0 s1 s2 s3 _).mono ?_
    rintro e w7 ⟨rfl, hw7⟩
    have S7 : Sn w w7 [s5] := by rw [hw7]; exact S6.alloc _
    have L7 : Hid (w7.heap[w6.heap.size]? = some (lineObj s0 s1 s2 s3)) := by show _ = _; rw [hw7]; exact line_alloc _ _
    clear hw7
    go_wp2_with fail
    refine (ZZparse_none s0 s1 s2 s3 w6.heap.size _ L7.out).mono ?_
    rintro e w8 ⟨⟨x1, rfl⟩, l8, hb8⟩
    have S8 := S7.later hb8 hs26
    have L8 : Hid (w8.heap[w6.heap.size]? = some (lineObj s0 s1 s2 s3)) := l8
    clear l8 S7 L7 hb8
    go_wp2_with fail
    refine (fields_row s0 s1 s2 s3 w6.heap.size _ L8.out).mono ?_
    rintro e w9 ⟨rfl, q9, hw9⟩
    have S9 : Sn w w9 [s5] := by rw [hw9]; exact S8.drewN q9
    clear hw9 S8 L8
    go_wp2_with fail
    refine (newLine_any s0 s1 s2 s3 _).mono ?_
    rintro e w10 ⟨rfl, hw10⟩
    have S10 : Sn w w10 [s5] := by rw [hw10]; exact S9.alloc _
    have L10 : Hid (w10.heap[w9.heap.size]? = some (lineObj s0 s1 s2 s3)) := by show _ = _; rw [hw10]; exact line_alloc _ _
    have hs29 : w.heap.size < w9.heap.size := lt_of_heap S9.rowI
    clear hw10
    go_wp2_with fail
    refine (ZZparse_any w.heap.size 1 1 [s5] s0 s1 s2 s3 w9.heap.size _ rfl L10.out (by omega) S10.rowI).mono ?_
    rintro e w11 ⟨er2, n2, f2, p2, rfl, P2, l11, hb11⟩
    have S11 := S10.later hb11 hs29
    have L11 : Hid (w11.heap[w9.heap.size]? = some (lineObj s0 n2 f2 p2)) := l11
    clear l11 S10 L10 hb11
    go_wp2_with fail
    refine (fields_row s0 n2 f2 p2 w9.heap.size _ L11.out).mono ?_
    rintro e w12 ⟨rfl, q12, hw12⟩
    have S12 : Sn w w12 [s5] := by rw [hw12]; exact S11.drewN q12
    clear hw12 S11 L11
    go_wp2_with fail
    rcases P2 with ⟨m2, _⟩ | ⟨m2, ⟨x2, e2⟩, en2, ef2, ep2⟩
    · exact absurd (isMove_len m2).1 (by simp)
    subst er2 n2 f2 p2
    have M2 : Hid (isMoveB [s5] = false) := m2
    clear m2
    refine (isMove_none _).mono ?_
    rintro e wx ⟨rfl, hwx⟩
    subst wx
    go_wp2_with fail
    go_quiet ((go_at_call 10; exact Calls.quiet_of_same (isMove_none _)))
    have S13 := S12.drewN nq
    obtain ⟨w13, hw13⟩ : ∃ w13, w12.drewN nq = w13 := ⟨_, rfl⟩
    rw [hw13] at S13 ⊢
    clear hw13
    go_wp2_with fail
    refine (isMove_is false w.heap.size 1 1 [s5] _ rfl S13.rowI M2.out).mono ?_
    rintro e wx ⟨rfl, hwx⟩
    subst wx
    go_wp2_with fail
    go_quiet ((go_at_call 10; exact Calls.quiet_of_same (isMove_is false w.heap.size 1 1 [s5] _ rfl S13.rowI M2.out)))
    go_wp2
    go_ret
    exact ⟨rfl, (S13.drewN _).below⟩

end Go.Proofs.Qxb6608744a
