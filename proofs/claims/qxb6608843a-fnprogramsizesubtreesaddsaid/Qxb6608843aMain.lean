import Derived.Test.Qxb6608843aPlain
import Derived.Laws.CopyOwn
import Derived.Deep.CutRange
namespace Go.Proofs.Qxb6608843a
open Go.RowKit

theorem Try.info21 : (Try.prog.info? 21).map (fun i => (i.zero, i.size, i.bytes)) = some (some (.int .i32 0), 1, 4) := by kernel_rfl

/-- What the walk is told of a slice of runes that came in: nil, or so many cells at its address. -/
def IsRunes (w : World) (a : Option Addr) (len : Nat) : Prop :=
  (a = none ∧ len = 0) ∨ ∃ x zs, a = some x ∧ zs.length = len ∧ ∀ j v, ((zs : List Int).map (Value.int .i32))[j]? = some v → w.cell? (x.add j) = some v

def runes (zs : List Int) : List Value := zs.map (Value.int .i32)
theorem runes_length (zs : List Int) : (runes zs).length = zs.length := by simp [runes]
theorem runes_one (zs : List Int) : ∀ v ∈ runes zs, v.oneCell' = true := by
  intro v hv; simp [runes] at hv; obtain ⟨s, _, rfl⟩ := hv; rfl
theorem runes_src {w w' : World} {x : Addr} {zs : List Int} (h : ∀ j v, (zs.map (Value.int .i32))[j]? = some v → w.cell? (x.add j) = some v) (hb : Below w.heap.size w w') : ∀ j v, (runes zs)[j]? = some v → w'.cell? (x.add j) = some v := by
  intro j v hv
  have hc := h j v hv
  exact (hb.cell (World.block_lt_of_cell? _ _ hc)).trans hc

theorem row_of_own {w : World} {B g n cap : Nat} {xs : List Value} (h : w.ownsRow B 21 1 (.slice (some ⟨g, 0, none⟩) n cap) n xs) :
    ∃ cur : List Value, w.heap[g]? = some (.cells cur.toArray 21 (0, 0)) ∧ cur.length = cap := by
  obtain ⟨_, (⟨h, _⟩ | ⟨g', cap', cur, e, _, hg, _, _, hs, _⟩)⟩ := h
  · cases h
  · cases e
    exact ⟨cur.toList, by simpa using hg, by simpa using hs⟩

set_option maxRecDepth 100000 in
set_option maxHeartbeats 2000000 in
theorem main_in (op lo hi : Int) (ro : Option Addr) (nr rc : Nat) (aop alo ahi : Int) (aro : Option Addr) (anr arc : Nat) (bop blo bhi : Int) (bro : Option Addr) (bnr brc : Nat) (w : World) (hsum : nr + anr + bnr ≤ 262144)
    (hr : IsRunes w ro nr) (har : IsRunes w aro anr) (hbr : IsRunes w bro bnr) :
    Calls Try.prog 3 #[.int .u8 op, .slice ro nr rc, .int .i64 lo, .int .i64 hi, .int .u8 aop, .slice aro anr arc, .int .i64 alo, .int .i64 ahi, .int .u8 bop, .slice bro bnr brc, .int .i64 blo, .int .i64 bhi] w fun e w' => e = .returned (.bool true) ∧ Below w.heap.size w w' := by
  have hnil1 := fun w => run_neq_slice_nil_any (P := Try.prog) w 22 21 ro nr rc 0 0 Try.underlying22
  have hnil2 := fun w => run_neq_slice_nil_any (P := Try.prog) w 22 21 aro anr arc 0 0 Try.underlying22
  have hnil3 := fun w => run_neq_slice_nil_any (P := Try.prog) w 22 21 bro bnr brc 0 0 Try.underlying22
  obtain ⟨i0, hi0, hz0, hz1, hz2⟩ := info_parts Try.info21
  have n1 : nr ≤ 262144 := by omega
  have n2 : anr ≤ 262144 := by omega
  have n3 : bnr ≤ 262144 := by omega
  go_enter Try.func3, Try.ntmps3
  go_wp2_with fail
  refine (bytes_any op lo hi ro nr rc aop alo ahi aro anr arc bop blo bhi bro bnr brc _ (by omega) (by omega) (by omega)).mono ?_
  rintro e w' ⟨⟨r, rfl⟩, hw'⟩
  subst w'
  cases r
  · go_wp2
    go_ret
    exact ⟨rfl, Below.refl _ _⟩
  go_upto_if 73 with (fail)
  go_cut [1] from 35 (fun s wx => (∃ ro' rc', s = .slice ro' nr rc') ∧ Below w.heap.size w wx)
  case first =>
    rcases hr with ⟨rfl, rfl⟩ | ⟨x, zs, rfl, hzl, hsrc⟩
    · go_wp2_with fail
      go_meet
      case rel => exact ⟨⟨_, _, rfl⟩, (Below.refl w.heap.size w)⟩
    · go_wp2_with (first
        | (at_make; refine wpList_make_full _ rfl (.tmp 75) (.tmp 75) 22 rfl w.heap.size 21 i0 (.int .i32 0) 1 Try.underlying22 hi0 hz0 hz1 .i64 .i64 _ _ nr rfl rfl rfl rfl (by rw [hz2]; omega) (by unfold maxLen; omega) (Nat.le_refl _) ?_; intro w1 hown1 hgrow1; obtain ⟨cur, hcur, hcl⟩ := row_of_own hown1; have hb1 := (Below.refl w.heap.size w).grown hgrow1 (Nat.le_refl _) (by simp); have HCL : Hid (cur.length = nr) := hcl; have HCUR : Hid (w1.heap[w.heap.size]? = some (.cells cur.toArray 21 (0, 0))) := hcur; clear hcl hcur hown1 hgrow1)
        | (refine wpList_copy_splice rfl (.tmp 77) (.tmp 78) 22 22 rfl 21 Try.underlying22 (by rw [hi0]; simp [hz1]) _ _ nr nr nr rc rfl rfl w.heap.size 0 cur 21 HCUR.out (runes zs) (by rw [runes_length, hzl]; simp) (fun _ => ⟨rfl, x, rfl, runes_src hsrc hb1⟩) (by rw [runes_length, hzl, HCL.out]; omega) (runes_one zs) w.heap.size w hb1 (Nat.le_refl _) ?_; intro w2 HG2 hB2))
      go_meet
      case rel => exact ⟨⟨_, _, rfl⟩, hB2⟩
  case rest =>
    obtain ⟨⟨ro1, rc1, rfl⟩, hbc1⟩ := hcut
    rename World => wa
    clear hr hnil1
    go_upto_if 82 with (fail)
    go_cut [5] from 35 (fun s wx => (∃ ro' rc', s = .slice ro' anr rc') ∧ Below w.heap.size w wx)
    case first =>
      rcases har with ⟨rfl, rfl⟩ | ⟨x, zs, rfl, hzl, hsrc⟩
      · go_wp2_with fail
        go_meet
        case rel => exact ⟨⟨_, _, rfl⟩, hbc1⟩
      · go_wp2_with (first
          | (at_make; refine wpList_make_full _ rfl (.tmp 84) (.tmp 84) 22 rfl wa.heap.size 21 i0 (.int .i32 0) 1 Try.underlying22 hi0 hz0 hz1 .i64 .i64 _ _ anr rfl rfl rfl rfl (by rw [hz2]; omega) (by unfold maxLen; omega) (Nat.le_refl _) ?_; intro w1 hown1 hgrow1; obtain ⟨cur, hcur, hcl⟩ := row_of_own hown1; have hb1 := hbc1.grown hgrow1 hbc1.size (by simp); have HCL : Hid (cur.length = anr) := hcl; have HCUR : Hid (w1.heap[wa.heap.size]? = some (.cells cur.toArray 21 (0, 0))) := hcur; clear hcl hcur hown1 hgrow1)
          | (refine wpList_copy_splice rfl (.tmp 86) (.tmp 87) 22 22 rfl 21 Try.underlying22 (by rw [hi0]; simp [hz1]) _ _ anr anr anr arc rfl rfl wa.heap.size 0 cur 21 HCUR.out (runes zs) (by rw [runes_length, hzl]; simp) (fun _ => ⟨rfl, x, rfl, runes_src hsrc hb1⟩) (by rw [runes_length, hzl, HCL.out]; omega) (runes_one zs) w.heap.size w hb1 hbc1.size ?_; intro w2 HG2 hB2))
        go_meet
        case rel => exact ⟨⟨_, _, rfl⟩, hB2⟩
    case rest =>
      obtain ⟨⟨ro2, rc2, rfl⟩, hbc2⟩ := hcut
      rename World => wb
      clear har hnil2
      go_upto_if 91 with (fail)
      go_cut [9] from 35 (fun s wx => (∃ ro' rc', s = .slice ro' bnr rc') ∧ Below w.heap.size w wx)
      case first =>
        rcases hbr with ⟨rfl, rfl⟩ | ⟨x, zs, rfl, hzl, hsrc⟩
        · go_wp2_with fail
          go_meet
          case rel => exact ⟨⟨_, _, rfl⟩, hbc2⟩
        · go_wp2_with (first
            | (at_make; refine wpList_make_full _ rfl (.tmp 93) (.tmp 93) 22 rfl wb.heap.size 21 i0 (.int .i32 0) 1 Try.underlying22 hi0 hz0 hz1 .i64 .i64 _ _ bnr rfl rfl rfl rfl (by rw [hz2]; omega) (by unfold maxLen; omega) (Nat.le_refl _) ?_; intro w1 hown1 hgrow1; obtain ⟨cur, hcur, hcl⟩ := row_of_own hown1; have hb1 := hbc2.grown hgrow1 hbc2.size (by simp); have HCL : Hid (cur.length = bnr) := hcl; have HCUR : Hid (w1.heap[wb.heap.size]? = some (.cells cur.toArray 21 (0, 0))) := hcur; clear hcl hcur hown1 hgrow1)
            | (refine wpList_copy_splice rfl (.tmp 95) (.tmp 96) 22 22 rfl 21 Try.underlying22 (by rw [hi0]; simp [hz1]) _ _ bnr bnr bnr brc rfl rfl wb.heap.size 0 cur 21 HCUR.out (runes zs) (by rw [runes_length, hzl]; simp) (fun _ => ⟨rfl, x, rfl, runes_src hsrc hb1⟩) (by rw [runes_length, hzl, HCL.out]; omega) (runes_one zs) w.heap.size w hb1 hbc2.size ?_; intro w2 HG2 hB2))
          go_meet
          case rel => exact ⟨⟨_, _, rfl⟩, hB2⟩
      case rest =>
        obtain ⟨⟨ro3, rc3, rfl⟩, hbc3⟩ := hcut
        rename World => wd
        clear hbr hnil3 hbc1 hbc2
        go_wp2_with fail
        refine (size0_any op lo hi ro1 nr rc1 _ n1).mono ?_
        rintro e x1 ⟨rfl, b1'⟩
        have b1 := hbc3.trans (b1'.mono hbc3.size)
        clear b1'
        go_wp2_with fail
        refine (size1_any op lo hi ro1 nr rc1 aop alo ahi ro2 anr rc2 _ n1 n2).mono ?_
        rintro e x2 ⟨rfl, b2'⟩
        have b2 := b1.trans (b2'.mono b1.size)
        clear b2'
        go_wp2_with fail
        refine (size1_any op lo hi ro1 nr rc1 bop blo bhi ro3 bnr rc3 _ n1 n3).mono ?_
        rintro e x3 ⟨rfl, b3'⟩
        have b3 := b2.trans (b3'.mono b2.size)
        clear b3'
        go_wp2_with fail
        refine (size2_any op lo hi ro1 nr rc1 aop alo ahi ro2 anr rc2 bop blo bhi ro3 bnr rc3 _ n1 n2 n3).mono ?_
        rintro e x4 ⟨rfl, b4'⟩
        have b4 := b3.trans (b4'.mono b3.size)
        clear b4'
        go_wp2_with fail
        refine (size0_any aop alo ahi ro2 anr rc2 _ n2).mono ?_
        rintro e x5 ⟨rfl, b5'⟩
        have b5 := b4.trans (b5'.mono b4.size)
        clear b5'
        go_wp2_with fail
        refine (factor_any op lo hi _).mono ?_
        rintro e x6 ⟨rfl, hx6⟩
        subst x6
        go_upto_if 148 with (fail)
        have HL : Hid (FinalLaw (sizeS op nr lo hi []) (sizeS op nr lo hi [sizeS aop anr alo ahi []]) (sizeS op nr lo hi [sizeS bop bnr blo bhi []]) (sizeS op nr lo hi [sizeS aop anr alo ahi [], sizeS bop bnr blo bhi []]) (sizeS aop anr alo ahi []) (kS op lo hi) (ownS op nr)) := final_law op nr lo hi _ _ n1
        go_cut [28, 29, 30, 31, 32, 33, 34] from 35 (fun s28 s29 s30 s31 s32 s33 s34 wx => ∃ b wA wB wAB sA k o : Int, s28 = .int .i64 b ∧ s29 = .int .i64 wA ∧ s30 = .int .i64 wB ∧ s31 = .int .i64 wAB ∧ s32 = .int .i64 sA ∧ s33 = .int .i64 k ∧ s34 = .int .i64 o ∧ Hid (FinalLaw b wA wB wAB sA k o) ∧ Below w.heap.size w wx)
        case first =>
          by_cases h13 : op = 13
          · have hb13 : (op == 13) = true := by simp [h13]
            have HO : Hid (1 + (nr : Int) + 1 = ownS op nr) := by show _ = _; rw [ownS, if_pos h13]
            clear h13
            go_wp2_with fail
            go_meet
            case rel => exact ⟨_, _, _, _, _, _, _, rfl, rfl, rfl, rfl, rfl, rfl, rfl, by show FinalLaw _ _ _ _ _ _ _; rw [HO.out]; exact HL.out, b5⟩
          · have hb13 : (op == 13) = false := by simp [h13]
            have HO : Hid (1 + (nr : Int) = ownS op nr) := by show _ = _; rw [ownS, if_neg h13]
            clear h13
            go_wp2_with fail
            go_meet
            case rel => exact ⟨_, _, _, _, _, _, _, rfl, rfl, rfl, rfl, rfl, rfl, rfl, by show FinalLaw _ _ _ _ _ _ _; rw [HO.out]; exact HL.out, b5⟩
        case rest =>
          obtain ⟨b, wA, wB, wAB, sA, k, o, rfl, rfl, rfl, rfl, rfl, rfl, rfl, FL, b6⟩ := hcut
          obtain ⟨f1, f2, f3⟩ := FL.out
          clear FL
          go_wp2
          go_ret
          exact ⟨rfl, b6⟩

end Go.Proofs.Qxb6608843a
