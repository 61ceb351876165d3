import Derived.Test.Qxb6608853aBytes
import Derived.Test.Qxb6608853aIns
import Derived.BigQuiet
import Derived.Deep.CutBlock
import Derived.Deep.CutRange
namespace Go.Proofs.Qxb6608853a
open Go.RowKit Go.Maps

set_option maxRecDepth 100000 in
set_option maxHeartbeats 2000000 in
theorem insert_in (a0 a1 : Option Addr) (len0 cap0 len1 cap1 : Nat) (x : ByteArray) (pl : Int) (nm : Nat → ByteArray) (isf : Nat → Bool) (w : World) (h0 : len0 ≤ 65536) (h1 : len1 ≤ 65536) (hx : x.size ≤ 65536) (h2 : 16 * len0 + len1 + x.size ≤ 1048576)
    (hn : NamesAt w a0 len0 nm) (hf : BoolsAt w a1 len1 isf) :
    Calls Try.prog 4 #[.slice a0 len0 cap0, .slice a1 len1 cap1, .string x, .int .i64 pl] w fun e w' => e = .returned (.bool true) ∧ Below w.heap.size w w' := by
  obtain ⟨i0, hi0, hz0, hz1, hz2⟩ := info_parts Try.info30
  have hd1 : decide (65536 < (len0 : Int)) = false := by simp; omega
  have hd2 : decide (65536 < (len1 : Int)) = false := by simp; omega
  have hdx : decide (65536 < (x.size : Int)) = false := by simp; omega
  have hd3 : decide (1048576 < 16 * (len0 : Int) + (len1 : Int) + (x.size : Int)) = false := by simp; omega
  have HN : Hid (NamesAt w a0 len0 nm) := hn
  have HF : Hid (BoolsAt w a1 len1 isf) := hf
  have hxm : x.size ≤ maxLen := by unfold maxLen; omega
  go_enter Try.func4, Try.ntmps4
  go_wp2_with fail
  refine (bytes9_any a0 a1 len0 cap0 len1 cap1 x pl nm _ (by omega) (by omega) (by omega) hn).mono ?_
  rintro e w' ⟨⟨r, rfl⟩, hw'⟩
  subst w'
  cases r
  · go_wp2
    go_ret
    exact ⟨rfl, Below.refl _ _⟩
  clear hn hf
  go_wp2
  go_loop [9, 10] (fun t i => ∃ k : Nat, k ≤ len0 ∧ i = .int .i64 k ∧ ∃ r : Int, t = .int .i64 r) (fun _ i => len0 - (intOf i).toNat)
  case atStart => exact ⟨0, Nat.zero_le _, rfl, _, rfl⟩
  case round =>
    obtain ⟨k, hk, rfl, r, rfl⟩ := hrel
    by_cases hlt : k < len0
    · obtain ⟨⟨b, o, rfl, hcell⟩, hss⟩ := HN.out k hlt
      have hss0 : 0 ≤ ((nm k).size : Int) := by omega
      go_wp2
      · go_ret
        exact ⟨rfl, Below.refl _ _⟩
      · go_round
        case rel => exact ⟨k + 1, by omega, by go_num, _, rfl⟩
        case measure => simp [intOf]; omega
    go_upto_if 73 with (fail)
    go_cut [11] from 53 to 75 (fun s wx => (∃ n : Nat, s = .int .i64 n ∧ n ≤ len0 ∧ n ≤ len1) ∧ w = wx)
    case first =>
      by_cases hll : len1 < len0
      · go_wp2_with fail
        go_meet
        case rel => exact ⟨⟨len1, rfl, by omega, by omega⟩, rfl⟩
      · go_wp2_with fail
        go_meet
        case rel => exact ⟨⟨len0, rfl, by omega, by omega⟩, rfl⟩
    case rest =>
      obtain ⟨⟨n, rfl, hn0, hn1⟩, hwc⟩ := hcut
      subst hwc
      by_cases hc0 : pl < 0
      · go_wp2
        go_ret
        exact ⟨rfl, Below.refl _ _⟩
      obtain ⟨p, rfl⟩ := Int.eq_ofNat_of_zero_le (show 0 ≤ pl by omega)
      by_cases hcn : n < p
      · go_wp2
        go_ret
        exact ⟨rfl, Below.refl _ _⟩
      go_wp2_with (at_make; refine wpList_make_full _ rfl (.tmp 83) (.tmp 83) 25 rfl w.heap.size 30 i0 (.pointer none) 1 Try.underlying25 hi0 hz0 hz1 .i64 .i64 _ _ n rfl rfl rfl rfl (by rw [hz2]; omega) (by unfold maxLen; omega) (Nat.le_refl _) ?_; intro w1 hown1 hgrow1)
      have M1 : Mem w w1 w.heap.size nm isf n 0 (fun _ => 0) := Mem.start hown1 hgrow1
      have hs1 : w.heap.size < w1.heap.size := by obtain ⟨cur, hc, _⟩ := row_made hown1; exact lt_of_heap hc
      clear hown1 hgrow1
      go_loopw [16] (fun vi wr => ∃ (i : Nat) (bs : Nat → Nat) (va vf : Value), i ≤ n ∧ vi = .int .i64 i ∧ Mem w wr w.heap.size nm isf n i bs ∧ Nf wr (w1.heap.size + 1 + 1) x ((n : Int) + 1) ∧ Docs w.heap.size wr [(w1.heap.size, va, dsOf isf bs nm 0 i), (w1.heap.size + 1, vf, ads isf bs nm (w1.heap.size + 1 + 1) x p i (decide (p < i)))]) (fun vi _ => n - (intOf vi).toNat)
      case atStart => exact ⟨0, fun _ => 0, _, _, Nat.zero_le _, rfl, ((M1.alloc _).alloc _).alloc _, Nf.made (by simp), by simpa [dsOf, ads] using (Docs.start2 (Nat.le_of_lt hs1)).alloc _⟩
      case round =>
        obtain ⟨i, bs, va, vf, hi, rfl, hM, hN, hD⟩ := hrel
        have hFw : w.heap.size ≤ wr.heap.size := hM.below.size
        go_upto_if 102 with (fail)
        go_cut [16] from 95 to 143 (fun vi wx => vi = .int .i64 i ∧ Mem w wx w.heap.size nm isf n i bs ∧ Nf wx (w1.heap.size + 1 + 1) x ((n : Int) + 1) ∧ ∃ va vf : Value, Docs w.heap.size wx [(w1.heap.size, va, dsOf isf bs nm 0 i), (w1.heap.size + 1, vf, ads isf bs nm (w1.heap.size + 1 + 1) x p i (decide (p ≤ i)))])
        case first =>
          by_cases hip : i = p
          · subst hip
            go_wp2_with fail
            refine (addFrag_any w.heap.size (w1.heap.size + 1) (w1.heap.size + 1 + 1) vf _ wr (hD.docs _ (.tail _ (.head _))) (by rw [List.length_map]; exact Nat.le_trans (ads_length isf bs nm (w1.heap.size + 1 + 1) x i i (decide (i < i)) (by simp)) (by omega)) hFw).mono ?_
            rintro e wx ⟨rfl, v1, hd1, hat1, ht1⟩
            have hM1 := hM.turned (hD.docs _ (.tail _ (.head _))) ht1
            have hN1 := hN.turned (hD.docs _ (.tail _ (.head _))) ht1
            have hD1 := hD.second (true, w1.heap.size + 1 + 1, x) hd1 hat1 ht1
            rw [show decide (i < i) = false by simp, ads_put] at hD1
            clear hd1 hat1 ht1 hM hN hD
            go_wp2_with fail
            go_meet
            case rel => exact ⟨rfl, hM1, hN1, _, _, by rw [show decide (i ≤ i) = true by simp]; exact hD1⟩
          · have hip1 : ¬ (i : Int) = (p : Int) := by omega
            go_wp2_with fail
            go_meet
            case rel => exact ⟨rfl, hM, hN, _, _, by rw [show decide (p ≤ i) = decide (p < i) by rw [decide_eq_decide]; omega]; exact hD⟩
        case rest =>
          clear hM hN hD hFw
          obtain ⟨rfl, hM, hN, va, vf, hD⟩ := hcut
          rename World => wr
          have hFw : w.heap.size ≤ wr.heap.size := hM.below.size
          by_cases hin : i < n
          · obtain ⟨⟨b, o, hb0, hcn⟩, hsz⟩ := HN.out i (by omega)
            obtain ⟨b', o', hb1, hcf⟩ := HF.out i (by omega)
            have dn0 : wr.cell? ⟨b, o + i, none⟩ = some (.string (nm i)) := (hM.below.cell (p := ⟨b, o + i, none⟩) (World.block_lt_of_cell? _ _ hcn)).trans hcn
            have df0 : wr.cell? ⟨b', o' + i, none⟩ = some (.bool (isf i)) := (hM.below.cell (p := ⟨b', o' + i, none⟩) (World.block_lt_of_cell? _ _ hcf)).trans hcf
            have hbl : b < wr.heap.size := World.block_lt_of_cell? _ _ dn0
            have hin1 : ¬ (i : Int) = (n : Int) := by omega
            clear hcn hcf
            subst hb0
            subst hb1
            obtain ⟨⟨ov, hov⟩, hfr⟩ := hM.old i hin
            have hFw2 : w.heap.size < wr.heap.size := World.block_lt_of_cell? _ _ hov
            obtain ⟨s, hs⟩ : ∃ s, nm i = s := ⟨_, rfl⟩
            rw [hs] at dn0
            cases hfi : isf i
            · rw [hfi] at df0
              go_wp2_with fail
              refine (addDir_any w.heap.size w1.heap.size wr.heap.size va _ _ ((hD.alloc _).docs _ (.head _)) (by rw [List.length_map, dsOf_length]; omega) (Nat.le_trans hFw (by simp))).mono ?_
              rintro e wx ⟨rfl, v1, hd1, hat1, ht1⟩
              have hM1 := (hM.addDir hfi _).turned ((hD.alloc _).docs _ (.head _)) ht1
              have hN1 := (hN.alloc _).turned ((hD.alloc _).docs _ (.head _)) ht1
              have hD1 := (hD.alloc _).all (isf i, wr.heap.size, nm i) (by rw [defVal_dir hfi]; exact hd1) hat1 ht1
              clear hd1 hat1 ht1 hov hfr dn0 df0 hD hN
              go_wp2_with fail
              refine (addDir_any w.heap.size (w1.heap.size + 1) wr.heap.size vf _ wx (hD1.docs _ (.tail _ (.head _))) (by rw [List.length_map]; exact Nat.le_trans (ads_length isf bs nm (w1.heap.size + 1 + 1) x p i (decide (p ≤ i)) (by simp)) (by omega)) hM1.below.size).mono ?_
              rintro e wy ⟨rfl, v2, hd2, hat2, ht2⟩
              have hM2 := hM1.turned (hD1.docs _ (.tail _ (.head _))) ht2
              have hN2 := hN1.turned (hD1.docs _ (.tail _ (.head _))) ht2
              have hD2 := Docs.stepI (hD1.second (isf i, wr.heap.size, nm i) (by rw [defVal_dir hfi]; exact hd2) hat2 ht2)
              clear hd2 hat2 ht2 hD1 hM1 hM hN1
              go_wp2_with fail
              go_roundw
              case rel =>
                exact ⟨i + 1, _, _, _, by omega, by go_num, hM2, hN2, hD2⟩
              case measure => simp [intOf]; omega
            · rw [hfi] at df0
              go_wp2_with fail
              refine (addFrag_any w.heap.size w1.heap.size wr.heap.size va _ _ ((Docs.stepFrag hM hD _ _).docs _ (.head _)) (by rw [List.length_map, dsOf_length]; omega) (Nat.le_trans hFw (by simp [World.setCell]))).mono ?_
              rintro e wx ⟨rfl, v1, hd1, hat1, ht1⟩
              have hM1 := (hM.stepFrag hin _ (by rw [hs]; rfl)).turned ((Docs.stepFrag hM hD _ _).docs _ (.head _)) ht1
              have hN1 := (hN.stepFrag hM _ _).turned ((Docs.stepFrag hM hD _ _).docs _ (.head _)) ht1
              have hD1 := (Docs.stepFrag hM hD _ _).all (isf i, wr.heap.size, nm i) (by rw [defVal_frag hfi]; exact hd1) hat1 ht1
              clear hd1 hat1 ht1 hov hfr dn0 df0 hD hN
              go_wp2_with fail
              refine (addFrag_any w.heap.size (w1.heap.size + 1) wr.heap.size vf _ wx (hD1.docs _ (.tail _ (.head _))) (by rw [List.length_map]; exact Nat.le_trans (ads_length isf bs nm (w1.heap.size + 1 + 1) x p i (decide (p ≤ i)) (by simp)) (by omega)) hM1.below.size).mono ?_
              rintro e wy ⟨rfl, v2, hd2, hat2, ht2⟩
              have hM2 := hM1.turned (hD1.docs _ (.tail _ (.head _))) ht2
              have hN2 := hN1.turned (hD1.docs _ (.tail _ (.head _))) ht2
              have hD2 := Docs.stepI (hD1.second (isf i, wr.heap.size, nm i) (by rw [defVal_frag hfi]; exact hd2) hat2 ht2)
              clear hd2 hat2 ht2 hD1 hM1 hM hN1
              go_wp2_with fail
              go_roundw
              case rel =>
                exact ⟨i + 1, _, _, _, by omega, by go_num, hM2, hN2, hD2⟩
              case measure => simp [intOf]; omega
          · have hen : n = i := by omega
            subst hen
            have HS : Hid (∀ t, t < n → (nm t).size ≤ maxLen) := fun t ht => (HN.out t (by omega)).2
            have hpn : p ≤ n := by omega
            rw [show decide (p ≤ n) = true by simp; omega] at hD
            go_wp2_with fail
            refine (frags_any w.heap.size w1.heap.size va (dsOf isf bs nm 0 n) wr (hD.docs _ (.head _)) (by rw [dsOf_length]; omega) (hM.names HS.out (by omega))).mono ?_
            rintro e wa ⟨rfl, hma, hba⟩
            have MA : MapHas wa wr.heap.size (ents (dsOf isf bs nm 0 n)) := ⟨_, hma⟩
            have hM1 := hM.later hba
            have hD1 := hD.later hba
            have hN1 := hN.later hba
            clear hma hba hM hD hN
            go_wp2_with fail
            refine (frags_any w.heap.size (w1.heap.size + 1) vf (ads isf bs nm (w1.heap.size + 1 + 1) x p n true) wa (hD1.docs _ (.tail _ (.head _))) (Nat.le_trans (ads_length isf bs nm (w1.heap.size + 1 + 1) x p n true (fun _ => hpn)) (by omega)) (ads_names hM1 hN1 HS.out hxm hpn)).mono ?_
            rintro e wb ⟨rfl, hmb, hbb⟩
            have C0 : Chk2 w wb w.heap.size nm isf n bs (w1.heap.size + 1 + 1) x p wr.heap.size wa.heap.size := ⟨hM1.later hbb, MA.later (hbb.block _ MA.lt), ⟨_, hmb⟩⟩
            clear hmb hbb hM1 hD1 hN1 MA
            obtain ⟨Ma, hMa⟩ : ∃ m, wr.heap.size = m := ⟨_, rfl⟩
            rw [hMa] at C0 ⊢
            clear hMa
            go_upto_block 4 with (fail)
            go_cut [21] from 149 to 165 (fun vl wx => Later isf nm p n x vl ∧ wb = wx)
            case first =>
              go_wp2_with fail
              go_loop [21, 22] (fun vl vj => vl = .bool false ∧ ∃ j : Nat, p ≤ j ∧ j ≤ n ∧ vj = .int .i64 j ∧ NoneIn isf nm p j x) (fun _ vj => n - (intOf vj).toNat)
              case atStart => exact ⟨rfl, p, Nat.le_refl _, hpn, rfl, fun t a b => by omega⟩
              case round =>
                obtain ⟨rfl, j, hj1, hj2, rfl, hno⟩ := hrel
                by_cases hjn : j < n
                · obtain ⟨⟨b0, o0, hb0, hcn0⟩, hsz⟩ := HN.out j (by omega)
                  obtain ⟨b1, o1, hb1, hcf0⟩ := HF.out j (by omega)
                  have dn0 : wb.cell? ⟨b0, o0 + j, none⟩ = some (.string (nm j)) := (C0.mem.below.cell (p := ⟨b0, o0 + j, none⟩) (World.block_lt_of_cell? _ _ hcn0)).trans hcn0
                  have df0 : wb.cell? ⟨b1, o1 + j, none⟩ = some (.bool (isf j)) := (C0.mem.below.cell (p := ⟨b1, o1 + j, none⟩) (World.block_lt_of_cell? _ _ hcf0)).trans hcf0
                  clear hcn0 hcf0
                  subst hb0
                  subst hb1
                  cases hfj : isf j
                  · rw [hfj] at df0
                    go_wp2_with fail
                    go_round
                    case rel => exact ⟨rfl, j + 1, by omega, by omega, by go_num, hno.step (fun h => by rw [hfj] at h; cases h)⟩
                    case measure => simp [intOf]; omega
                  · rw [hfj] at df0
                    by_cases hjx : nm j = x
                    · rw [hjx] at dn0
                      go_wp2_with fail
                      go_meet
                      case rel => exact ⟨.inl ⟨rfl, j, hj1, hjn, hfj, hjx⟩, rfl⟩
                    · have HJX : Hid (¬ nm j = x) := hjx
                      obtain ⟨s, hs⟩ : ∃ s, nm j = s := ⟨_, rfl⟩
                      rw [hs] at dn0 hjx
                      have hsx1 := str_ne hjx
                      clear hs
                      go_wp2_with fail
                      go_round
                      case rel => exact ⟨rfl, j + 1, by omega, by omega, by go_num, hno.step (fun _ => HJX.out)⟩
                      case measure => simp [intOf]; omega
                · have hjen : n = j := by omega
                  subst hjen
                  go_wp2_with fail
                  go_meet
                  case rel => exact ⟨.inr ⟨rfl, hno⟩, rfl⟩
            case rest =>
              obtain ⟨hLat, hwb⟩ := hcut
              subst hwb
              go_upto_if 166 with (fail)
              go_cut [21] from 166 to 184 (fun _ wx => wb = wx)
              case first =>
                rcases hLat with ⟨rfl, j, hj1, hj2, hj3, hj4⟩ | ⟨rfl, hno⟩
                · obtain ⟨b, e1, e2⟩ := ins_later (bs := bs) (N := w1.heap.size + 1 + 1) hpn hj1 hj2 hj3 hj4
                  have l1 := (C0.mb.look_some hxm e1).1
                  have l2 := (C0.ma.look_some hxm e2).1
                  have hns := neq_same b
                  clear e1 e2 hj4 hj3
                  go_wp2_with fail
                  go_meet
                  case rel => exact rfl
                · have l1 := (C0.mb.look_some hxm (ins_new (bs := bs) (N := w1.heap.size + 1 + 1) hno)).1
                  have hns := neq_same (w1.heap.size + 1 + 1)
                  clear hno
                  go_wp2_with fail
                  go_meet
                  case rel => exact rfl
              case rest =>
                subst hcut
                clear hLat
                go_wp2_with fail
                go_loopw [23] (fun vi wq => ∃ i : Nat, i ≤ n ∧ vi = .int .i64 i ∧ Chk2 w wq w.heap.size nm isf n bs (w1.heap.size + 1 + 1) x p Ma wa.heap.size) (fun vi _ => n - (intOf vi).toNat)
                case atStart => exact ⟨0, Nat.zero_le _, rfl, C0⟩
                case round =>
                  clear C0
                  obtain ⟨i, hi, rfl, hC⟩ := hrel
                  by_cases hin2 : i < n
                  · obtain ⟨⟨b0, o0, hb0, hcn0⟩, hsz⟩ := HN.out i (by omega)
                    obtain ⟨b1, o1, hb1, hcf0⟩ := HF.out i (by omega)
                    have dn0 : wr.cell? ⟨b0, o0 + i, none⟩ = some (.string (nm i)) := (hC.mem.below.cell (p := ⟨b0, o0 + i, none⟩) (World.block_lt_of_cell? _ _ hcn0)).trans hcn0
                    have df0 : wr.cell? ⟨b1, o1 + i, none⟩ = some (.bool (isf i)) := (hC.mem.below.cell (p := ⟨b1, o1 + i, none⟩) (World.block_lt_of_cell? _ _ hcf0)).trans hcf0
                    clear hcn0 hcf0
                    subst hb0
                    subst hb1
                    cases hfi : isf i
                    · rw [hfi] at df0
                      go_wp2_with fail
                      go_roundw
                      case rel => exact ⟨i + 1, by omega, by go_num, hC⟩
                      case measure => simp [intOf]; omega
                    · rw [hfi] at df0
                      obtain ⟨k2, hk1, hk2, hk3, hk4, hLa, -, -⟩ := place (bs := bs) (nm := nm) hin2 (Nat.zero_le n) hfi
                      obtain ⟨cN, cL⟩ := frag_cells (hC.mem.frag k2 hk2 hk3)
                      rw [hk4] at cN
                      have cP := hC.mem.ptr hk2 hk3
                      have hsm : (nm i).size ≤ maxLen := HS.out i hin2
                      clear hk4
                      obtain ⟨s, hs⟩ : ∃ s, nm i = s := ⟨_, rfl⟩
                      rw [hs] at dn0 cN hLa hsm
                      clear hs
                      have lka := (hC.ma.look_some hsm hLa).1
                      go_wp2_with fail
                      go_quiet (fail)
                      have hC' := hC.drewN nq
                      have dn1 : (wr.drewN nq).cell? ⟨b0, o0 + i, none⟩ = some (.string s) := dn0
                      have cL1 : (wr.drewN nq).cell? ⟨bs k2, 4, none⟩ = some (.int .i64 ((k2 : Int) + 1)) := cL
                      have cP1 : (wr.drewN nq).cell? ⟨w.heap.size, k2, none⟩ = some (.pointer (some ⟨bs k2, 0, none⟩)) := cP
                      obtain ⟨wv, hwv⟩ : ∃ wv, wr.drewN nq = wv := ⟨_, rfl⟩
                      rw [hwv] at hC' dn1 cL1 cP1 ⊢
                      clear hwv dn0 cN cL cP lka df0 hC
                      have hns := neq_same (bs k2)
                      by_cases hsx : s = x
                      · subst hsx
                        clear hLa
                        go_wp2_with fail
                        go_roundw
                        case rel => exact ⟨i + 1, by omega, by go_num, hC'⟩
                        case measure => simp [intOf]; omega
                      · have lkb := (hC'.mb.look_some hsm (by rw [ins_other hpn hsx]; exact hLa)).1
                        have hsx1 := str_ne hsx
                        clear hLa
                        go_wp2_with fail
                        go_roundw
                        case rel => exact ⟨i + 1, by omega, by go_num, hC'⟩
                        case measure => simp [intOf]; omega
                  · have hen : n = i := by omega
                    subst hen
                    have hcnt := ins_count (isf := isf) (bs := bs) (nm := nm) (N := w1.heap.size + 1 + 1) (x := x) hpn
                    have b1 : dn ((ents (dsOf isf bs nm 0 n)).map Prod.fst) ≤ n := nms_length isf bs nm 0 n
                    have hla := hC.ma.len
                    have hlb := hC.mb.len
                    obtain ⟨dA, eA⟩ : ∃ d, dn ((ents (dsOf isf bs nm 0 n)).map Prod.fst) = d := ⟨_, rfl⟩
                    obtain ⟨dB, eB⟩ : ∃ d, dn ((ents (ads isf bs nm (w1.heap.size + 1 + 1) x p n true)).map Prod.fst) = d := ⟨_, rfl⟩
                    rw [eA] at b1
                    rw [eA, eB] at hcnt
                    simp only [eA] at hla
                    simp only [eB] at hlb
                    clear eA eB
                    cases hLx : lastB (ents (dsOf isf bs nm 0 n)) x.data.toList with
                    | none =>
                      rw [hLx, if_pos rfl] at hcnt
                      have lkx := (hC.ma.look_none hxm hLx).1
                      subst hcnt
                      clear hLx
                      go_wp2_with fail
                      go_ret
                      exact ⟨rfl, hC.mem.below⟩
                    | some b =>
                      rw [hLx, if_neg (by simp)] at hcnt
                      have lkx := (hC.ma.look_some hxm hLx).1
                      subst hcnt
                      clear hLx
                      go_wp2_with fail
                      go_ret
                      exact ⟨rfl, hC.mem.below⟩

end Go.Proofs.Qxb6608853a
