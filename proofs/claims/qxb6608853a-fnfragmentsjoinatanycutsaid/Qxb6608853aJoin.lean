import Derived.Test.Qxb6608853aBytes
import Derived.Test.Qxb6608853aChk
import Derived.BigQuiet
namespace Go.Proofs.Qxb6608853a
open Go.RowKit Go.Maps

set_option maxRecDepth 100000 in
set_option maxHeartbeats 2000000 in
theorem join_in (a0 a1 : Option Addr) (len0 cap0 len1 cap1 : Nat) (cut : Int) (nm : Nat → ByteArray) (isf : Nat → Bool) (w : World) (h0 : len0 ≤ 65536) (h1 : len1 ≤ 65536) (h2 : 16 * len0 + len1 ≤ 1048576)
    (hn : NamesAt w a0 len0 nm) (hf : BoolsAt w a1 len1 isf) :
    Calls Try.prog 3 #[.slice a0 len0 cap0, .slice a1 len1 cap1, .int .i64 cut] w fun e w' => e = .returned (.bool true) ∧ Below w.heap.size w w' := by
  obtain ⟨i0, hi0, hz0, hz1, hz2⟩ := info_parts Try.info30
  have hd1 : decide (65536 < (len0 : Int)) = false := by simp; omega
  have hd2 : decide (65536 < (len1 : Int)) = false := by simp; omega
  have hd3 : decide (1048576 < 16 * (len0 : Int) + (len1 : Int)) = false := by simp; omega
  have HN : Hid (NamesAt w a0 len0 nm) := hn
  have HF : Hid (BoolsAt w a1 len1 isf) := hf
  go_enter Try.func3, Try.ntmps3
  go_wp2_with fail
  refine (bytes5_any a0 a1 len0 cap0 len1 cap1 cut nm _ (by omega) (by omega) hn).mono ?_
  rintro e w' ⟨⟨r, rfl⟩, hw'⟩
  subst w'
  cases r
  · go_wp2
    go_ret
    exact ⟨rfl, Below.refl _ _⟩
  clear hn hf
  go_wp2
  go_loop [7, 8] (fun t i => ∃ k : Nat, k ≤ len0 ∧ i = .int .i64 k ∧ ∃ r : Int, t = .int .i64 r) (fun _ i => len0 - (intOf i).toNat)
  case atStart => exact ⟨0, Nat.zero_le _, rfl, _, rfl⟩
  case round =>
    obtain ⟨k, hk, rfl, r, rfl⟩ := hrel
    by_cases hlt : k < len0
    · obtain ⟨⟨b, o, rfl, hcell⟩, hss⟩ := HN.out k hlt
      have hss0 : 0 ≤ ((nm k).size : Int) := by omega
      go_wp2
      · go_ret
        exact ⟨rfl, Below.refl _ _⟩
      · go_round
        case rel => exact ⟨k + 1, by omega, by go_num, _, rfl⟩
        case measure => simp [intOf]; omega
    go_upto_if 65 with (fail)
    go_cut [9] from 26 (fun s wx => (∃ n : Nat, s = .int .i64 n ∧ n ≤ len0 ∧ n ≤ len1) ∧ w = wx)
    case first =>
      by_cases hll : len1 < len0
      · go_wp2_with fail
        go_meet
        case rel => exact ⟨⟨len1, rfl, by omega, by omega⟩, rfl⟩
      · go_wp2_with fail
        go_meet
        case rel => exact ⟨⟨len0, rfl, by omega, by omega⟩, rfl⟩
    case rest =>
      obtain ⟨⟨n, rfl, hn0, hn1⟩, hwc⟩ := hcut
      subst hwc
      by_cases hc0 : cut < 0
      · go_wp2
        go_ret
        exact ⟨rfl, Below.refl _ _⟩
      obtain ⟨c, rfl⟩ := Int.eq_ofNat_of_zero_le (show 0 ≤ cut by omega)
      by_cases hcn : n < c
      · go_wp2
        go_ret
        exact ⟨rfl, Below.refl _ _⟩
      go_wp2_with (at_make; refine wpList_make_full _ rfl (.tmp 75) (.tmp 75) 25 rfl w.heap.size 30 i0 (.pointer none) 1 Try.underlying25 hi0 hz0 hz1 .i64 .i64 _ _ n rfl rfl rfl rfl (by rw [hz2]; omega) (by unfold maxLen; omega) (Nat.le_refl _) ?_; intro w1 hown1 hgrow1)
      have M1 : Mem w w1 w.heap.size nm isf n 0 (fun _ => 0) := Mem.start hown1 hgrow1
      have hs1 : w.heap.size < w1.heap.size := by obtain ⟨cur, hc, _⟩ := row_made hown1; exact lt_of_heap hc
      clear hown1 hgrow1
      go_loopw [14] (fun vi wr => ∃ (i : Nat) (bs : Nat → Nat) (va vl vr : Value), i ≤ n ∧ vi = .int .i64 i ∧ Mem w wr w.heap.size nm isf n i bs ∧ Docs w.heap.size wr [(w1.heap.size, va, dsOf isf bs nm 0 i), (w1.heap.size + 1, vl, dsOf isf bs nm 0 (min i c)), (w1.heap.size + 1 + 1, vr, dsOf isf bs nm c (i - c))]) (fun vi _ => n - (intOf vi).toNat)
      case atStart => exact ⟨0, fun _ => 0, _, _, _, Nat.zero_le _, rfl, ((M1.alloc _).alloc _).alloc _, by simpa [dsOf] using Docs.start3 (Nat.le_of_lt hs1)⟩
      case round =>
        obtain ⟨i, bs, va, vl, vr, hi, rfl, hM, hD⟩ := hrel
        by_cases hin : i < n
        · obtain ⟨⟨b, o, hb0, hcn⟩, hsz⟩ := HN.out i (by omega)
          obtain ⟨b', o', hb1, hcf⟩ := HF.out i (by omega)
          have dn0 : wr.cell? ⟨b, o + i, none⟩ = some (.string (nm i)) := (hM.below.cell (p := ⟨b, o + i, none⟩) (World.block_lt_of_cell? _ _ hcn)).trans hcn
          have df0 : wr.cell? ⟨b', o' + i, none⟩ = some (.bool (isf i)) := (hM.below.cell (p := ⟨b', o' + i, none⟩) (World.block_lt_of_cell? _ _ hcf)).trans hcf
          have hbl : b < wr.heap.size := World.block_lt_of_cell? _ _ dn0
          clear hcn hcf
          subst hb0
          subst hb1
          obtain ⟨⟨ov, hov⟩, hfr⟩ := hM.old i hin
          have hFw : w.heap.size < wr.heap.size := World.block_lt_of_cell? _ _ hov
          obtain ⟨s, hs⟩ : ∃ s, nm i = s := ⟨_, rfl⟩
          rw [hs] at dn0
          cases hfi : isf i
          · rw [hfi] at df0
            by_cases hic : i < c
            · go_wp2_with fail
              refine (addDir_any w.heap.size w1.heap.size wr.heap.size va _ _ ((hD.alloc _).docs _ (.head _)) (by rw [List.length_map, dsOf_length]; omega) (Nat.le_trans (Nat.le_of_lt hFw) (by simp))).mono ?_
              rintro e wx ⟨rfl, v1, hd1, hat1, ht1⟩
              have hM1 := (hM.addDir hfi _).turned ((hD.alloc _).docs _ (.head _)) ht1
              have hD1 := (hD.alloc _).all (isf i, wr.heap.size, nm i) (by rw [defVal_dir hfi]; exact hd1) hat1 ht1
              clear hd1 hat1 ht1 hov hfr dn0 df0 hD
              go_wp2_with fail
              refine (addDir_any w.heap.size (w1.heap.size + 1) wr.heap.size vl _ wx (hD1.docs _ (.tail _ (.head _))) (by rw [List.length_map, dsOf_length]; omega) hM1.below.size).mono ?_
              rintro e wy ⟨rfl, v2, hd2, hat2, ht2⟩
              have hM2 := hM1.turned (hD1.docs _ (.tail _ (.head _))) ht2
              have hD2 := Docs.stepL hic (hD1.second (isf i, wr.heap.size, nm i) (by rw [defVal_dir hfi]; exact hd2) hat2 ht2)
              clear hd2 hat2 ht2 hD1 hM1 hM
              go_wp2_with fail
              go_roundw
              case rel => exact ⟨i + 1, _, _, _, _, by omega, by go_num, hM2, hD2⟩
              case measure => simp [intOf]; omega
            · go_wp2_with fail
              refine (addDir_any w.heap.size w1.heap.size wr.heap.size va _ _ ((hD.alloc _).docs _ (.head _)) (by rw [List.length_map, dsOf_length]; omega) (Nat.le_trans (Nat.le_of_lt hFw) (by simp))).mono ?_
              rintro e wx ⟨rfl, v1, hd1, hat1, ht1⟩
              have hM1 := (hM.addDir hfi _).turned ((hD.alloc _).docs _ (.head _)) ht1
              have hD1 := (hD.alloc _).all (isf i, wr.heap.size, nm i) (by rw [defVal_dir hfi]; exact hd1) hat1 ht1
              clear hd1 hat1 ht1 hov hfr dn0 df0 hD
              go_wp2_with fail
              refine (addDir_any w.heap.size (w1.heap.size + 1 + 1) wr.heap.size vr _ wx (hD1.docs _ (.tail _ (.tail _ (.head _)))) (by rw [List.length_map, dsOf_length]; omega) hM1.below.size).mono ?_
              rintro e wy ⟨rfl, v2, hd2, hat2, ht2⟩
              have hM2 := hM1.turned (hD1.docs _ (.tail _ (.tail _ (.head _)))) ht2
              have hD2 := Docs.stepR hic (hD1.third (isf i, wr.heap.size, nm i) (by rw [defVal_dir hfi]; exact hd2) hat2 ht2)
              clear hd2 hat2 ht2 hD1 hM1 hM
              go_wp2_with fail
              go_roundw
              case rel => exact ⟨i + 1, _, _, _, _, by omega, by go_num, hM2, hD2⟩
              case measure => simp [intOf]; omega
          · rw [hfi] at df0
            by_cases hic : i < c
            · go_wp2_with fail
              refine (addFrag_any w.heap.size w1.heap.size wr.heap.size va _ _ ((Docs.stepFrag hM hD _ _).docs _ (.head _)) (by rw [List.length_map, dsOf_length]; omega) (Nat.le_trans (Nat.le_of_lt hFw) (by simp [World.setCell]))).mono ?_
              rintro e wx ⟨rfl, v1, hd1, hat1, ht1⟩
              have hM1 := (hM.stepFrag hin _ (by rw [hs]; rfl)).turned ((Docs.stepFrag hM hD _ _).docs _ (.head _)) ht1
              have hD1 := (Docs.stepFrag hM hD _ _).all (isf i, wr.heap.size, nm i) (by rw [defVal_frag hfi]; exact hd1) hat1 ht1
              clear hd1 hat1 ht1 hov hfr dn0 df0 hD
              go_wp2_with fail
              refine (addFrag_any w.heap.size (w1.heap.size + 1) wr.heap.size vl _ wx (hD1.docs _ (.tail _ (.head _))) (by rw [List.length_map, dsOf_length]; omega) hM1.below.size).mono ?_
              rintro e wy ⟨rfl, v2, hd2, hat2, ht2⟩
              have hM2 := hM1.turned (hD1.docs _ (.tail _ (.head _))) ht2
              have hD2 := Docs.stepL hic (hD1.second (isf i, wr.heap.size, nm i) (by rw [defVal_frag hfi]; exact hd2) hat2 ht2)
              clear hd2 hat2 ht2 hD1 hM1 hM
              go_wp2_with fail
              go_roundw
              case rel => exact ⟨i + 1, _, _, _, _, by omega, by go_num, hM2, hD2⟩
              case measure => simp [intOf]; omega
            · go_wp2_with fail
              refine (addFrag_any w.heap.size w1.heap.size wr.heap.size va _ _ ((Docs.stepFrag hM hD _ _).docs _ (.head _)) (by rw [List.length_map, dsOf_length]; omega) (Nat.le_trans (Nat.le_of_lt hFw) (by simp [World.setCell]))).mono ?_
              rintro e wx ⟨rfl, v1, hd1, hat1, ht1⟩
              have hM1 := (hM.stepFrag hin _ (by rw [hs]; rfl)).turned ((Docs.stepFrag hM hD _ _).docs _ (.head _)) ht1
              have hD1 := (Docs.stepFrag hM hD _ _).all (isf i, wr.heap.size, nm i) (by rw [defVal_frag hfi]; exact hd1) hat1 ht1
              clear hd1 hat1 ht1 hov hfr dn0 df0 hD
              go_wp2_with fail
              refine (addFrag_any w.heap.size (w1.heap.size + 1 + 1) wr.heap.size vr _ wx (hD1.docs _ (.tail _ (.tail _ (.head _)))) (by rw [List.length_map, dsOf_length]; omega) hM1.below.size).mono ?_
              rintro e wy ⟨rfl, v2, hd2, hat2, ht2⟩
              have hM2 := hM1.turned (hD1.docs _ (.tail _ (.tail _ (.head _)))) ht2
              have hD2 := Docs.stepR hic (hD1.third (isf i, wr.heap.size, nm i) (by rw [defVal_frag hfi]; exact hd2) hat2 ht2)
              clear hd2 hat2 ht2 hD1 hM1 hM
              go_wp2_with fail
              go_roundw
              case rel => exact ⟨i + 1, _, _, _, _, by omega, by go_num, hM2, hD2⟩
              case measure => simp [intOf]; omega
        · have hen : n = i := by omega
          subst hen
          have HS : Hid (∀ t, t < n → (nm t).size ≤ maxLen) := fun t ht => (HN.out t (by omega)).2
          have hcn' : c ≤ n := by omega
          rw [show min n c = c by omega] at hD
          go_wp2_with fail
          refine (frags_any w.heap.size w1.heap.size va (dsOf isf bs nm 0 n) wr (hD.docs _ (.head _)) (by rw [dsOf_length]; omega) (hM.names HS.out (by omega))).mono ?_
          rintro e wa ⟨rfl, hma, hba⟩
          have MA : MapHas wa wr.heap.size (ents (dsOf isf bs nm 0 n)) := ⟨_, hma⟩
          have hM1 := hM.later hba
          have hD1 := hD.later hba
          clear hma hba hM hD
          go_wp2_with fail
          refine (frags_any w.heap.size (w1.heap.size + 1) vl (dsOf isf bs nm 0 c) wa (hD1.docs _ (.tail _ (.head _))) (by rw [dsOf_length]; omega) (hM1.names HS.out (by omega))).mono ?_
          rintro e wb ⟨rfl, hml, hbb⟩
          have ML : MapHas wb wa.heap.size (ents (dsOf isf bs nm 0 c)) := ⟨_, hml⟩
          have MA1 := MA.later (hbb.block _ MA.lt)
          have hM2 := hM1.later hbb
          have hD2 := hD1.later hbb
          clear hml hbb hM1 hD1 MA
          go_wp2_with fail
          refine (frags_any w.heap.size (w1.heap.size + 1 + 1) vr (dsOf isf bs nm c (n - c)) wb (hD2.docs _ (.tail _ (.tail _ (.head _)))) (by rw [dsOf_length]; omega) (hM2.names HS.out (by omega))).mono ?_
          rintro e wd ⟨rfl, hmr, hbd⟩
          have C0 : Chk w wd w.heap.size nm isf n c bs wr.heap.size wa.heap.size wb.heap.size := ⟨hM2.later hbd, MA1.later (hbd.block _ MA1.lt), ML.later (hbd.block _ ML.lt), ⟨_, hmr⟩⟩
          clear hmr hbd hM2 hD2 MA1 ML
          obtain ⟨Ma, hMa⟩ : ∃ m, wr.heap.size = m := ⟨_, rfl⟩
          rw [hMa] at C0 ⊢
          clear hMa
          go_wp2_with fail
          go_loopw [21, 22] (fun vb vi wq => ∃ i b : Nat, i ≤ n ∧ vi = .int .i64 i ∧ vb = .int .i64 b ∧ b + lc (nms isf bs nm 0 c) (rest isf bs nm c n i) = lc (nms isf bs nm 0 c) (nms isf bs nm c (n - c)) ∧ Chk w wq w.heap.size nm isf n c bs Ma wa.heap.size wb.heap.size) (fun _ vi _ => n - (intOf vi).toNat)
          case atStart => exact ⟨0, 0, Nat.zero_le _, rfl, rfl, by rw [rest_start]; omega, C0⟩
          case round =>
            obtain ⟨i, bo, hi, rfl, rfl, hcnt, hC⟩ := hrel
            by_cases hin2 : i < n
            · obtain ⟨⟨b0, o0, hb0, hcn0⟩, hsz⟩ := HN.out i (by omega)
              obtain ⟨b1, o1, hb1, hcf0⟩ := HF.out i (by omega)
              have dn0 : wr.cell? ⟨b0, o0 + i, none⟩ = some (.string (nm i)) := (hC.mem.below.cell (p := ⟨b0, o0 + i, none⟩) (World.block_lt_of_cell? _ _ hcn0)).trans hcn0
              have df0 : wr.cell? ⟨b1, o1 + i, none⟩ = some (.bool (isf i)) := (hC.mem.below.cell (p := ⟨b1, o1 + i, none⟩) (World.block_lt_of_cell? _ _ hcf0)).trans hcf0
              clear hcn0 hcf0
              subst hb0
              subst hb1
              cases hfi : isf i
              · rw [hfi] at df0
                go_wp2_with fail
                go_roundw
                case rel => exact ⟨i + 1, bo, by omega, by go_num, rfl, by rw [rest_dir hin2 hfi]; exact hcnt, hC⟩
                case measure => simp [intOf]; omega
              · rw [hfi] at df0
                obtain ⟨k2, hk1, hk2, hk3, hk4, hLa, hLc, hLn⟩ := place (bs := bs) (nm := nm) hin2 hcn' hfi
                have HLN : Hid ((nm i).data.toList ∈ nms isf bs nm (i + 1) (n - (i + 1)) ↔ k2 ≠ i) := hLn
                obtain ⟨cN, cL⟩ := frag_cells (hC.mem.frag k2 hk2 hk3)
                rw [hk4] at cN
                have cP := hC.mem.ptr hk2 hk3
                have cPi := hC.mem.ptr hin2 hfi
                have hsm : (nm i).size ≤ maxLen := HS.out i hin2
                have HEL : Hid (lastB (ents (dsOf isf bs nm 0 c)) (nm i).data.toList = none ↔ (nm i).data.toList ∉ nms isf bs nm 0 c) := lastB_none (nm i).data.toList (ents (dsOf isf bs nm 0 c))
                have HBK : Hid (∀ q, k2 ≠ i → (binOp .eql 30 (.pointer (some ⟨bs k2, 0, none⟩)) (.pointer (some ⟨bs i, 0, none⟩))).run Try.prog (wr.drewN q) = .ok (.bool false) (wr.drewN q)) := fun q hne => eql_other (fun e => hne (hC.mem.inj _ _ hk2 hin2 hk3 hfi e)) ((hC.mem.drewN q).frag k2 hk2 hk3) ((hC.mem.drewN q).frag i hin2 hfi)
                have HCO : Hid (bo + lc (nms isf bs nm 0 c) (rest isf bs nm c n i) = lc (nms isf bs nm 0 c) (nms isf bs nm c (n - c))) := hcnt
                have hbo : bo ≤ 65536 := by
                  have a1 := lc_le (nms isf bs nm 0 c) (nms isf bs nm c (n - c))
                  have a2 := nms_length isf bs nm c (n - c)
                  omega
                clear hcnt hLn hk4
                obtain ⟨s, hs⟩ : ∃ s, nm i = s := ⟨_, rfl⟩
                have HSE : Hid (nm i = s) := hs
                rw [hs] at dn0 cN hLa hLc hsm
                clear hs
                have lka := (hC.ma.look_some hsm hLa).1
                clear hLa
                go_wp2_with fail
                go_quiet (fail)
                have hC' := hC.drewN nq
                have HBK' : Hid (∀ q, k2 ≠ i → (binOp .eql 30 (.pointer (some ⟨bs k2, 0, none⟩)) (.pointer (some ⟨bs i, 0, none⟩))).run Try.prog ((wr.drewN nq).drewN q) = .ok (.bool false) ((wr.drewN nq).drewN q)) := by
                  intro q hne; rw [World.drewN_drewN]; exact HBK.out _ hne
                have dn1 : (wr.drewN nq).cell? ⟨b0, o0 + i, none⟩ = some (.string s) := dn0
                have cL1 : (wr.drewN nq).cell? ⟨bs k2, 4, none⟩ = some (.int .i64 ((k2 : Int) + 1)) := cL
                have cP1 : (wr.drewN nq).cell? ⟨w.heap.size, k2, none⟩ = some (.pointer (some ⟨bs k2, 0, none⟩)) := cP
                have cPi1 : (wr.drewN nq).cell? ⟨w.heap.size, i, none⟩ = some (.pointer (some ⟨bs i, 0, none⟩)) := cPi
                obtain ⟨wv, hwv⟩ : ∃ wv, wr.drewN nq = wv := ⟨_, rfl⟩
                rw [hwv] at HBK' hC' dn1 cL1 cP1 cPi1 ⊢
                clear hwv dn0 cN cL cP cPi lka df0 hC HBK
                have hns := neq_same (bs k2)
                have hes := eql_same (bs k2)
                rcases hLc with ⟨hck, hLr⟩ | ⟨hck, hLr, hLl⟩
                · obtain ⟨lkr, lkrq⟩ := hC'.mr.look_some hsm hLr
                  clear hLr
                  by_cases hic : i < c
                  · have hdc : decide ((c : Int) ≤ (i : Int)) = false := by simp; omega
                    have hdn : decide (c ≤ i) = false := by simp; omega
                    clear lkrq
                    go_wp2_with fail
                    go_quiet (fail)
                    go_wp2_with fail
                    go_roundw
                    case rel => exact ⟨i + 1, bo, by omega, by go_num, rfl, by rw [← count_same hin2 hfi HLN.out (.inl hic)]; exact HCO.out, hC'.drewN _⟩
                    case measure => simp [intOf]; omega
                  · have hdc : decide ((c : Int) ≤ (i : Int)) = true := by simp; omega
                    have hdn : decide (c ≤ i) = true := by simp; omega
                    by_cases hki : k2 = i
                    · subst hki
                      cases hLl : lastB (ents (dsOf isf bs nm 0 c)) s.data.toList with
                      | none =>
                        obtain ⟨lkl, lklq⟩ := hC'.ml.look_none hsm hLl
                        go_wp2_with fail
                        go_quiet (fail)
                        go_wp2_with fail
                        go_roundw
                        case rel => exact ⟨k2 + 1, bo, by omega, by go_num, rfl, by rw [← count_same hin2 hfi HLN.out (.inr (.inr (HEL.out.1 (by rw [HSE.out]; exact hLl))))]; exact HCO.out, hC'.drewN _⟩
                        case measure => simp [intOf]; omega
                      | some x =>
                        obtain ⟨lkl, lklq⟩ := hC'.ml.look_some hsm hLl
                        go_wp2_with fail
                        go_quiet (fail)
                        go_wp2_with fail
                        go_roundw
                        case rel =>
                          have hmem : (nm k2).data.toList ∈ nms isf bs nm 0 c := Classical.byContradiction fun hh => by
                            have := HEL.out.2 hh
                            rw [HSE.out, hLl] at this
                            cases this
                          exact ⟨k2 + 1, bo + 1, by omega, by go_num, by go_num, by have h1 := HCO.out; rw [count_one hin2 hfi HLN.out hic rfl hmem] at h1; omega, hC'.drewN _⟩
                        case measure => simp [intOf]; omega
                    · have hbk := fun q => HBK'.out q hki
                      go_wp2_with fail
                      go_quiet (fail)
                      go_wp2_with fail
                      go_roundw
                      case rel => exact ⟨i + 1, bo, by omega, by go_num, rfl, by rw [← count_same hin2 hfi HLN.out (.inr (.inl hki))]; exact HCO.out, hC'.drewN _⟩
                      case measure => simp [intOf]; omega
                · obtain ⟨lkr, lkrq⟩ := hC'.mr.look_none hsm hLr
                  obtain ⟨lkl, lklq⟩ := hC'.ml.look_some hsm hLl
                  clear hLr hLl lkrq lklq
                  have hic : i < c := by omega
                  have hdc : decide ((c : Int) ≤ (i : Int)) = false := by simp; omega
                  have hdn : decide (c ≤ i) = false := by simp; omega
                  go_wp2_with fail
                  go_quiet (fail)
                  go_wp2_with fail
                  go_roundw
                  case rel => exact ⟨i + 1, bo, by omega, by go_num, rfl, by rw [← count_same hin2 hfi HLN.out (.inl hic)]; exact HCO.out, hC'.drewN _⟩
                  case measure => simp [intOf]; omega
            · have hen : n = i := by omega
              subst hen
              rw [rest_end] at hcnt
              have hsum := names_cut (isf := isf) (bs := bs) (nm := nm) hcn'
              have b1 := nms_length isf bs nm 0 n
              have b2 := nms_length isf bs nm 0 c
              have b3 := nms_length isf bs nm c (n - c)
              rw [← hcnt] at hsum
              obtain ⟨dA, eA⟩ : ∃ d, dn (nms isf bs nm 0 n) = d := ⟨_, rfl⟩
              obtain ⟨dL, eL⟩ : ∃ d, dn (nms isf bs nm 0 c) = d := ⟨_, rfl⟩
              obtain ⟨dR, eR⟩ : ∃ d, dn (nms isf bs nm c (n - c)) = d := ⟨_, rfl⟩
              rw [eA, eL, eR] at hsum
              rw [eA] at b1
              rw [eL] at b2
              rw [eR] at b3
              have hla : ∀ ty, (Builtin.len_ #[46] ty #[.map (some Ma)]).run Try.prog wr = .ok (.int .i64 dA) wr := fun ty => by rw [← eA]; exact hC.ma.len ty
              have hll : ∀ ty, (Builtin.len_ #[46] ty #[.map (some wa.heap.size)]).run Try.prog wr = .ok (.int .i64 dL) wr := fun ty => by rw [← eL]; exact hC.ml.len ty
              have hlr : ∀ ty, (Builtin.len_ #[46] ty #[.map (some wb.heap.size)]).run Try.prog wr = .ok (.int .i64 dR) wr := fun ty => by rw [← eR]; exact hC.mr.len ty
              clear eA eL eR hcnt
              change dA + (bo + 0) = _ at hsum
              have hz : (dL : Int) + (dR : Int) - (bo : Int) = (dA : Int) := by omega
              go_wp2_with fail
              go_ret
              exact ⟨rfl, hC.mem.below⟩

end Go.Proofs.Qxb6608853a
