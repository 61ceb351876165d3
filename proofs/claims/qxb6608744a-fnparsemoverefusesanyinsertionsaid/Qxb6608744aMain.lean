import Derived.Test.Qxb6608744aCells
namespace Go.Proofs.Qxb6608744a
open Go.RowKit

set_option maxRecDepth 100000 in
set_option maxHeartbeats 2000000 in
theorem main_some (s0 s1 s2 s3 s5 : ByteArray) (k : Nat) (ad : Addr) (len cap : Nat) (ss : List ByteArray) (w : World)
    (h0 : s0.size ≤ 9223372036854775807) (h1 : s1.size ≤ 9223372036854775807) (h2 : s2.size ≤ 9223372036854775807) (h3 : s3.size ≤ 9223372036854775807) (h5 : s5.size ≤ 9223372036854775807)
    (hk : k ≤ len) (hlen : len ≤ 4096) (h5' : s5.size ≤ 65536)
    (hl : ss.length = len) (hsz : ∀ s ∈ ss, s.size ≤ 9223372036854775807)
    (hc : StrsAt w (some ad) ss) :
    Calls Try.prog 3 #[.string s0, .string s1, .string s2, .string s3, .slice (some ad) len cap, .string s5, .int .i64 k] w fun e w' => e = .returned (.bool true) ∧ Below w.heap.size w w' := by
  have hnil := fun w => run_neq_slice_nil_any (P := Try.prog) w 22 9 (some ad) len cap 0 0 Try.underlying22
  obtain ⟨i0, hi, hz0, hz1, hz2⟩ := info_parts Try.info9
  go_enter Try.func3, Try.ntmps3
  go_wp2_with fail
  refine (bytes_any s0 s1 s2 s3 s5 k (some ad) len cap ss _ h0 h1 h2 h3 h5 hl (by omega) hsz hc).mono ?_
  rintro e w' ⟨⟨r, rfl⟩, hw'⟩
  subst w'
  cases r
  · go_wp2
    go_ret
    exact ⟨rfl, Below.refl _ _⟩
  go_wp2_with (first
    | (at_make; refine wpList_make_full _ rfl (.tmp 61) (.tmp 61) 22 rfl w.heap.size 9 i0 (.string ByteArray.empty) 1 Try.underlying22 hi hz0 hz1 .i64 .i64 _ _ len rfl rfl rfl rfl (by rw [hz2]; omega) (by unfold maxLen; omega) (Nat.le_refl _) ?_; intro w1 hown1 hgrow1; obtain ⟨cur, hcur, hcl⟩ := row_of_own hown1; have hb1 := (Below.refl w.heap.size w).grown hgrow1 (Nat.le_refl _) (by simp); have HCL : Hid (cur.length = len) := hcl; have HCUR : Hid (w1.heap[w.heap.size]? = some (.cells cur.toArray 9 (0, 0))) := hcur; clear hcl hcur hown1 hgrow1)
    | (refine wpList_copy_splice rfl (.tmp 63) (.tmp 64) 22 22 rfl 9 Try.underlying22 (by rw [hi]; simp [hz1]) _ _ len len len cap rfl rfl w.heap.size 0 cur 9 HCUR.out (cellsOf ss) (by rw [cellsOf_length, hl]; simp) (fun _ => ⟨rfl, ad, rfl, strs_src hc w1 hb1⟩) (by rw [cellsOf_length, hl, HCL.out]; omega) (cellsOf_one ss) w.heap.size w hb1 (Nat.le_refl _) ?_; intro w2 HG2 hB2; have HR2 : Hid (w2.heap[w.heap.size]? = some (.cells (cellsOf ss).toArray 9 (0, 0))) := strs_row (HCL.out.trans hl.symm) HG2; clear HG2))
  clear HCUR HCL hb1 hc
  have hN2 : w.heap.size < w2.heap.size := lt_of_heap HR2.out
  go_wp2_with (first
    | (go_at_call 5; refine (add_any _ _ _ (by omega) (by omega) (by omega) (by omega)).mono ?_; rintro e wx ⟨⟨r, hr1, hr2, rfl⟩, hwx⟩; subst wx)
    | (go_at_call 6; refine (argsBytes_any _ (some ⟨w.heap.size, 0, none⟩) len len ss _ (by omega) (by omega) hl (by omega) hsz (strs_of_row HR2.out)).mono ?_; rintro e wx ⟨⟨r, hr1, hr2, rfl⟩, hwx⟩; subst wx)
    | (at_make; refine wpList_make_own _ rfl (.const (.int .i64 0)) (.tmp 93) 22 rfl w2.heap.size 9 i0 (.string ByteArray.empty) 1 Try.underlying22 hi hz0 hz1 .i64 .i64 _ (len + 1) rfl rfl (by omega) (by rw [hz2]; omega) (by unfold maxLen; omega) (Nat.le_refl _) ?_; intro w3 hown3 hgrow3; have HR3 : Hid (w3.heap[w.heap.size]? = some (.cells (cellsOf ss).toArray 9 (0, 0))) := heap_keep HR2.out hgrow3 (by simp))
    | (at_builtin; refine wpList_append_fits_any _ rfl (.tmp 95) (.tmp 98) 22 rfl w2.heap.size 9 i0 1 Try.underlying22 hi hz1 w2.heap.size 0 (len + 1) [] rfl hown3 _ k _ (cellsOf (ss.take k)) rfl (by rw [cellsOf_length]; simp; omega) (by simp) (cells_part HR3.out 0 (ss.take k) (by simp) (by intro _; rfl)) (cellsOf_one _) (by omega) ?_; intro w4 hown4 hgrow4; simp only [Nat.zero_add, List.nil_append] at hown4; have HR4 : Hid (w4.heap[w.heap.size]? = some (.cells (cellsOf ss).toArray 9 (0, 0))) := heap_keep HR3.out hgrow4 (by simp; omega))
    | (at_builtin; refine wpList_append_fits _ rfl (.tmp 100) (.tmp 102) 22 rfl w2.heap.size 9 i0 1 Try.underlying22 hi hz1 w2.heap.size k (len + 1) (cellsOf (ss.take k)) rfl (hown4.alloc _) ⟨w4.heap.size, 0, none⟩ 1 1 [.string s5] rfl rfl (cell_one_new _ _ _) (one_str _) (by omega) ?_; intro w5 hown5 hgrow5; have HR5 : Hid (w5.heap[w.heap.size]? = some (.cells (cellsOf ss).toArray 9 (0, 0))) := heap_keep ((Below.heap_alloc _ _ _ (lt_of_heap HR4.out)).trans HR4.out) hgrow5 (by simp; omega))
    | (at_builtin; refine wpList_append_fits_any _ rfl (.tmp 104) (.tmp 107) 22 rfl w2.heap.size 9 i0 1 Try.underlying22 hi hz1 w2.heap.size (k + 1) (len + 1) _ rfl hown5 _ (len - k) _ (cellsOf (ss.drop k)) rfl (by rw [cellsOf_length]; simp; omega) (by split <;> simp) (cells_part HR5.out k (ss.drop k) (drop_self ss k) (fun h => if_neg (by simp at h; omega))) (cellsOf_one _) (by omega) ?_; intro w6 hown6 hgrow6; have HR6 : Hid (w6.heap[w.heap.size]? = some (.cells (cellsOf ss).toArray 9 (0, 0))) := heap_keep HR5.out hgrow6 (by simp; omega)))
  · go_ret
    exact ⟨rfl, hB2⟩
  all_goals
    have hb3 := hB2.grown hgrow3 (Nat.le_of_lt hN2) (by simp)
    have hs3 := hgrow3.size
    have hb4 := hb3.grown hgrow4 (by omega) (by intro j e; cases e; omega)
    have hs4 := hgrow4.size
    have hb5 := (hb4.alloc (by omega) _).grown hgrow5 (by simp; omega) (by intro j e; cases e; omega)
    have hs5 := hgrow5.size
    have hs4' : (w4.alloc (.cells #[.string s5] 9)).heap.size = w4.heap.size + 1 := by simp
    have hb6 := hb5.grown hgrow6 (by omega) (by intro j e; cases e; omega)
    have hs6 := hgrow6.size
    rw [cellsOf_ins] at hown6
    obtain ⟨ts, hts⟩ : ∃ ts, ts = ss.take k ++ s5 :: ss.drop k := ⟨_, rfl⟩
    rw [← hts] at hown6
    have htl : ts.length = len + 1 := by rw [hts]; simp; omega
    have S6 : St w w6 w2.heap.size ss ts := ⟨hb6, HR6.out, row_of_full hown6 (by omega), hN2⟩
    have HTS : Hid (ts = ss.take k ++ s5 :: ss.drop k) := hts
    have hs26 : w2.heap.size < w6.heap.size := lt_of_heap S6.rowI
    clear hb3 hb4 hb5 hb6 HR2 HR3 HR4 HR5 HR6 hgrow3 hgrow4 hgrow5 hgrow6 hown3 hown4 hown5 hown6 hts hs3 hs4 hs4' hs5 hs6 hB2
    refine (newLine_any s0 s1 s2 s3 _).mono ?_
    rintro e w7 ⟨rfl, hw7⟩
    have S7 : St w w7 w2.heap.size ss ts := by rw [hw7]; exact S6.alloc _
    have L7 : Hid (w7.heap[w6.heap.size]? = some (lineObj s0 s1 s2 s3)) := by show _ = _; rw [hw7]; exact line_alloc _ _
    clear hw7
    go_wp2_with fail
    refine (ZZparse_any w.heap.size _ _ ss s0 s1 s2 s3 w6.heap.size _ (by omega) L7.out (by omega) S7.rowA).mono ?_
    rintro e w8 ⟨er1, n1, f1, p1, rfl, P1, l8, hb8⟩
    have S8 := S7.later hb8 hs26
    have L8 : Hid (w8.heap[w6.heap.size]? = some (lineObj s0 n1 f1 p1)) := l8
    clear l8 S7 L7 hb8
    go_wp2_with fail
    refine (fields_row s0 n1 f1 p1 w6.heap.size _ L8.out).mono ?_
    rintro e w9 ⟨rfl, q9, hw9⟩
    have S9 : St w w9 w2.heap.size ss ts := by rw [hw9]; exact S8.drewN q9
    clear hw9 S8 L8
    go_wp2_with fail
    refine (newLine_any s0 s1 s2 s3 _).mono ?_
    rintro e w10 ⟨rfl, hw10⟩
    have S10 : St w w10 w2.heap.size ss ts := by rw [hw10]; exact S9.alloc _
    have L10 : Hid (w10.heap[w9.heap.size]? = some (lineObj s0 s1 s2 s3)) := by show _ = _; rw [hw10]; exact line_alloc _ _
    have hs29 : w2.heap.size < w9.heap.size := lt_of_heap S9.rowI
    clear hw10
    go_wp2_with fail
    refine (ZZparse_any w2.heap.size _ _ ts s0 s1 s2 s3 w9.heap.size _ (by omega) L10.out (by omega) S10.rowI).mono ?_
    rintro e w11 ⟨er2, n2, f2, p2, rfl, P2, l11, hb11⟩
    have S11 := S10.later hb11 hs29
    have L11 : Hid (w11.heap[w9.heap.size]? = some (lineObj s0 n2 f2 p2)) := l11
    clear l11 S10 L10 hb11
    go_wp2_with fail
    refine (fields_row s0 n2 f2 p2 w9.heap.size _ L11.out).mono ?_
    rintro e w12 ⟨rfl, q12, hw12⟩
    have S12 : St w w12 w2.heap.size ss ts := by rw [hw12]; exact S11.drewN q12
    clear hw12 S11 L11
    go_wp2_with fail
    rcases P1 with ⟨m1, e1, en, ef, ep⟩ | ⟨m1, ⟨x1, e1⟩, en, ef, ep⟩
    · rcases P2 with ⟨m2, _⟩ | ⟨m2, ⟨x2, e2⟩, en2, ef2, ep2⟩
      · exfalso
        rw [HTS.out] at m2
        exact not_both m1 m2
      · subst er1 er2 n2 f2 p2
        have h5l := (isMove_len m1).1
        have M1 : Hid (isMoveB ss = true) := m1
        have M2 : Hid (isMoveB ts = false) := m2
        have c0 := cell_of_row S12.rowA 0 (by omega) en
        have c2 := cell_of_row S12.rowA 2 (by omega) ef
        have c4 := cell_of_row S12.rowA 4 (by omega) ep
        clear m1 m2 en ef ep
        refine (isMove_is true w.heap.size _ _ ss _ (by omega) S12.rowA M1.out).mono ?_
        rintro e wx ⟨rfl, hwx⟩
        subst wx
        go_wp2_with fail
        go_quiet ((go_at_call 10; exact Calls.quiet_of_same (isMove_is true w.heap.size _ _ ss _ (by omega) S12.rowA M1.out)))
        have S13 := S12.drewN nq
        obtain ⟨w13, hw13⟩ : ∃ w13, w12.drewN nq = w13 := ⟨_, rfl⟩
        rw [hw13] at S13 ⊢
        clear hw13
        go_wp2_with fail
        refine (isMove_is false w2.heap.size _ _ ts _ (by omega) S13.rowI M2.out).mono ?_
        rintro e wx ⟨rfl, hwx⟩
        subst wx
        go_wp2_with fail
        go_quiet ((go_at_call 10; exact Calls.quiet_of_same (isMove_is false w2.heap.size _ _ ts _ (by omega) S13.rowI M2.out)))
        go_wp2
        go_ret
        exact ⟨rfl, (S13.drewN _).below⟩
    · rcases P2 with ⟨m2, e2, en2, ef2, ep2⟩ | ⟨m2, ⟨x2, e2⟩, en2, ef2, ep2⟩
      · subst er1 er2 n1 f1 p1
        have h5l := (isMove_len m2).1
        have M1 : Hid (isMoveB ss = false) := m1
        have M2 : Hid (isMoveB ts = true) := m2
        have c0 := cell_of_row S12.rowI 0 (by omega) en2
        have c2 := cell_of_row S12.rowI 2 (by omega) ef2
        have c4 := cell_of_row S12.rowI 4 (by omega) ep2
        clear m1 m2 en2 ef2 ep2
        refine (isMove_is false w.heap.size _ _ ss _ (by omega) S12.rowA M1.out).mono ?_
        rintro e wx ⟨rfl, hwx⟩
        subst wx
        go_wp2_with fail
        go_quiet ((go_at_call 10; exact Calls.quiet_of_same (isMove_is false w.heap.size _ _ ss _ (by omega) S12.rowA M1.out)))
        have S13 := S12.drewN nq
        obtain ⟨w13, hw13⟩ : ∃ w13, w12.drewN nq = w13 := ⟨_, rfl⟩
        have c0' := c0
        have c2' := c2
        have c4' := c4
        rw [← World.cell?_drewN (n := nq), hw13] at c0' c2' c4'
        rw [hw13] at S13 ⊢
        clear hw13
        go_wp2_with fail
        refine (isMove_is true w2.heap.size _ _ ts _ (by omega) S13.rowI M2.out).mono ?_
        rintro e wx ⟨rfl, hwx⟩
        subst wx
        go_wp2_with fail
        go_quiet ((go_at_call 10; exact Calls.quiet_of_same (isMove_is true w2.heap.size _ _ ts _ (by omega) S13.rowI M2.out)))
        go_wp2
        go_ret
        exact ⟨rfl, (S13.drewN _).below⟩
      · subst er1 er2 n1 f1 p1 n2 f2 p2
        have M1 : Hid (isMoveB ss = false) := m1
        have M2 : Hid (isMoveB ts = false) := m2
        clear m1 m2
        refine (isMove_is false w.heap.size _ _ ss _ (by omega) S12.rowA M1.out).mono ?_
        rintro e wx ⟨rfl, hwx⟩
        subst wx
        go_wp2_with fail
        go_quiet ((go_at_call 10; exact Calls.quiet_of_same (isMove_is false w.heap.size _ _ ss _ (by omega) S12.rowA M1.out)))
        have S13 := S12.drewN nq
        obtain ⟨w13, hw13⟩ : ∃ w13, w12.drewN nq = w13 := ⟨_, rfl⟩
        rw [hw13] at S13 ⊢
        clear hw13
        go_wp2_with fail
        refine (isMove_is false w2.heap.size _ _ ts _ (by omega) S13.rowI M2.out).mono ?_
        rintro e wx ⟨rfl, hwx⟩
        subst wx
        go_wp2_with fail
        go_quiet ((go_at_call 10; exact Calls.quiet_of_same (isMove_is false w2.heap.size _ _ ts _ (by omega) S13.rowI M2.out)))
        go_wp2
        go_ret
        exact ⟨rfl, (S13.drewN _).below⟩

end Go.Proofs.Qxb6608744a
