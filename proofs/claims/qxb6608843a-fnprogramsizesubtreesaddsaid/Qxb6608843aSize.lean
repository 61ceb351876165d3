import Derived.Test.Qxb6608843aRows
import Derived.WalkKit
import Derived.WalkSpells
import Derived.WalkLawsBesides
import Derived.Deep.QuietTactic
import Derived.BigQuiet
import Derived.BigRegion
namespace Go.Proofs.Qxb6608843a
open Go.RowKit

/-- A node counts itself and its runes, and one more for a capture. -/
def ownS (op : Int) (nr : Nat) : Int := if op = 13 then 1 + (nr : Int) + 1 else 1 + (nr : Int)

/-- The sizes of what it holds, added one by one, in int's own arithmetic. -/
def psum (x : Int) : List Int → Int
  | [] => x
  | s :: r => psum (wrap64 (x + s)) r

/-- How often a node counts. -/
def facS (lo hi : Int) : Int := wrap64 ((if lo < hi then hi else lo) + 1)

/-- What programSize gives for a node whose parts have the sizes 'ls'. -/
def sizeS (op : Int) (nr : Nat) (lo hi : Int) (ls : List Int) : Int :=
  if op = 17 then wrap64 (psum (ownS op nr) ls * facS lo hi) else psum (ownS op nr) ls

theorem ret_int {k : IntKind} {a b : Int} (h : a = b) : Ending.returned (.int k a) = .returned (.int k b) := by rw [h]

/-- A call of programSize on block L gives s, whatever has been drawn. -/
def Gives (w : World) (L : Nat) (s : Int) : Prop :=
  ∀ n, Calls Try.prog 9 #[.pointer (some ⟨L, 0, none⟩)] (w.drewN n) fun e w' => e = .returned (.int .i64 s) ∧ ∃ n', w' = w.drewN (n + n')

set_option maxHeartbeats 1000000 in
theorem node_any (op lo hi : Int) (ro : Option Addr) (nr rc : Nat) (L : Nat) (so : Option Addr) (Ls : List Nat) (ls : List Int) (w : World) (hnr : nr ≤ 262144)
    (hls : ls.length = Ls.length) (hlen : Ls.length ≤ 2)
    (c0 : w.cell? ⟨L, 0, none⟩ = some (.int .u8 op)) (c2 : w.cell? ⟨L, 2, none⟩ = some (.slice so Ls.length Ls.length)) (c4 : w.cell? ⟨L, 4, none⟩ = some (.slice ro nr rc)) (c7 : w.cell? ⟨L, 7, none⟩ = some (.int .i64 lo)) (c8 : w.cell? ⟨L, 8, none⟩ = some (.int .i64 hi))
    (hsub : ∀ j (h : j < Ls.length), ∃ S, so = some ⟨S, 0, none⟩ ∧ w.cell? ⟨S, j, none⟩ = some (.pointer (some ⟨Ls[j], 0, none⟩)) ∧ Gives w Ls[j] (ls.getD j 0)) :
    Calls Try.prog 9 #[.pointer (some ⟨L, 0, none⟩)] w fun e w' => e = .returned (.int .i64 (sizeS op nr lo hi ls)) ∧ ∃ n, w' = w.drewN n := by
  have H : Hid (∀ j (h : j < Ls.length), ∃ S, so = some ⟨S, 0, none⟩ ∧ w.cell? ⟨S, j, none⟩ = some (.pointer (some ⟨Ls[j], 0, none⟩)) ∧ Gives w Ls[j] (ls.getD j 0)) := hsub
  clear hsub
  obtain ⟨m, hm⟩ : ∃ m, Ls.length = m := ⟨_, rfl⟩
  have HM : Hid (Ls.length = m) := hm
  rw [hm] at c2 hlen
  obtain ⟨x0, hx0⟩ : ∃ x0, ownS op nr = x0 := ⟨_, rfl⟩
  have HX : Hid (ownS op nr = x0) := hx0
  clear hm hx0
  have fin : ∀ x, psum x (ls.drop m) = psum x0 ls → x = psum x0 ls := by
    intro x hx
    rw [List.drop_eq_nil_of_le (by rw [hls, HM.out]; omega)] at hx
    exact hx
  have FIN : Hid (∀ x, psum x (ls.drop m) = psum x0 ls → x = psum x0 ls) := fin
  clear fin
  by_cases h13 : op = 13
  · have hb13 : (op == 13) = true := by simp [h13]
    have hb17 : (op == 17) = false := by simp [h13]
    have HX0 : Hid (x0 = 1 + (nr : Int) + 1) := by show _ = _; rw [← HX.out]; simp [ownS, h13]
    have HZ : Hid (sizeS op nr lo hi ls = psum x0 ls) := by show _ = _; rw [← HX.out]; simp [sizeS, h13]
    clear h13
    go_enter Try.func9, Try.ntmps9
    go_wp2
    go_loopw [3, 24] (fun vn vi wr => ∃ (k n : Nat) (x : Int), k ≤ m ∧ vi = .int .i64 k ∧ vn = .int .i64 x ∧ Hid (psum x (ls.drop k) = psum x0 ls) ∧ Hid (wr = w.drewN n)) (fun _ vi _ => m - (intOf vi).toNat)
    case atStart => exact ⟨0, 0, _, Nat.zero_le _, rfl, rfl, by show _ = _; rw [← HX0.out]; rfl, rfl⟩
    case round =>
      obtain ⟨k, n, x, hk, rfl, rfl, HP, HW⟩ := hrel
      have d0 : wr.cell? ⟨L, 0, none⟩ = some (.int .u8 op) := by rw [HW.out]; exact c0
      have d7 : wr.cell? ⟨L, 7, none⟩ = some (.int .i64 lo) := by rw [HW.out]; exact c7
      have d8 : wr.cell? ⟨L, 8, none⟩ = some (.int .i64 hi) := by rw [HW.out]; exact c8
      by_cases hlt : k < m
      · obtain ⟨S, rfl, hcS, hg⟩ := H.out k (by rw [HM.out]; exact hlt)
        have dS : wr.cell? ⟨S, k, none⟩ = some (.pointer (some ⟨Ls[k]'(by rw [HM.out]; exact hlt), 0, none⟩)) := by rw [HW.out]; exact hcS
        have hcall := hg n
        rw [← HW.out] at hcall
        clear hcS hg
        obtain ⟨Lk, hLk⟩ : ∃ q, Ls[k]'(by rw [HM.out]; exact hlt) = q := ⟨_, rfl⟩
        rw [hLk] at dS hcall
        clear hLk
        obtain ⟨s, hs⟩ : ∃ s, ls.getD k 0 = s := ⟨_, rfl⟩
        rw [hs] at hcall
        have HP2 : Hid (psum (wrap64 (x + s)) (ls.drop (k + 1)) = psum x0 ls) := by
          show _ = _
          rw [← HP.out, List.drop_eq_getElem_cons (i := k) (by rw [hls, HM.out]; exact hlt)]
          rw [← hs, List.getD_eq_getElem?_getD, List.getElem?_eq_getElem (by rw [hls, HM.out]; exact hlt)]
          rfl
        have HC : Hid (Calls Try.prog 9 #[.pointer (some ⟨Lk, 0, none⟩)] wr fun e w' => e = .returned (.int .i64 s) ∧ ∃ n', w' = w.drewN (n + n')) := hcall
        clear hcall hs HP H
        go_wp2_with fail
        refine HC.out.mono ?_
        rintro e w1 ⟨rfl, n1, hw1⟩
        have HW1 : Hid (w1 = w.drewN (n + n1)) := hw1
        clear hw1
        go_wp2
        go_roundw
        case rel => exact ⟨k + 1, n + n1, _, by omega, by go_num, rfl, HP2.out, HW1.out⟩
        case measure => simp [intOf]; omega
      · obtain rfl : k = m := by omega
        have hx := FIN.out x HP.out
        have HXF : Hid (x = psum x0 ls) := hx
        clear hx HP H
        go_wp2
        go_ret
        exact ⟨ret_int (by rw [HZ.out]; exact HXF.out), n, HW.out⟩
  by_cases h17 : op = 17
  · have hb13 : (op == 13) = false := by simp [h17]
    have hb17 : (op == 17) = true := by simp [h17]
    have HX0 : Hid (x0 = 1 + (nr : Int)) := by show _ = _; rw [← HX.out]; simp [ownS, h17]
    have HZ : Hid (sizeS op nr lo hi ls = wrap64 (psum x0 ls * facS lo hi)) := by show _ = _; rw [← HX.out]; simp [sizeS, h17]
    clear h13 h17
    go_enter Try.func9, Try.ntmps9
    go_wp2
    go_loopw [3, 24] (fun vn vi wr => ∃ (k n : Nat) (x : Int), k ≤ m ∧ vi = .int .i64 k ∧ vn = .int .i64 x ∧ Hid (psum x (ls.drop k) = psum x0 ls) ∧ Hid (wr = w.drewN n)) (fun _ vi _ => m - (intOf vi).toNat)
    case atStart => exact ⟨0, 0, _, Nat.zero_le _, rfl, rfl, by show _ = _; rw [← HX0.out]; rfl, rfl⟩
    case round =>
      obtain ⟨k, n, x, hk, rfl, rfl, HP, HW⟩ := hrel
      have d0 : wr.cell? ⟨L, 0, none⟩ = some (.int .u8 op) := by rw [HW.out]; exact c0
      have d7 : wr.cell? ⟨L, 7, none⟩ = some (.int .i64 lo) := by rw [HW.out]; exact c7
      have d8 : wr.cell? ⟨L, 8, none⟩ = some (.int .i64 hi) := by rw [HW.out]; exact c8
      by_cases hlt : k < m
      · obtain ⟨S, rfl, hcS, hg⟩ := H.out k (by rw [HM.out]; exact hlt)
        have dS : wr.cell? ⟨S, k, none⟩ = some (.pointer (some ⟨Ls[k]'(by rw [HM.out]; exact hlt), 0, none⟩)) := by rw [HW.out]; exact hcS
        have hcall := hg n
        rw [← HW.out] at hcall
        clear hcS hg
        obtain ⟨Lk, hLk⟩ : ∃ q, Ls[k]'(by rw [HM.out]; exact hlt) = q := ⟨_, rfl⟩
        rw [hLk] at dS hcall
        clear hLk
        obtain ⟨s, hs⟩ : ∃ s, ls.getD k 0 = s := ⟨_, rfl⟩
        rw [hs] at hcall
        have HP2 : Hid (psum (wrap64 (x + s)) (ls.drop (k + 1)) = psum x0 ls) := by
          show _ = _
          rw [← HP.out, List.drop_eq_getElem_cons (i := k) (by rw [hls, HM.out]; exact hlt)]
          rw [← hs, List.getD_eq_getElem?_getD, List.getElem?_eq_getElem (by rw [hls, HM.out]; exact hlt)]
          rfl
        have HC : Hid (Calls Try.prog 9 #[.pointer (some ⟨Lk, 0, none⟩)] wr fun e w' => e = .returned (.int .i64 s) ∧ ∃ n', w' = w.drewN (n + n')) := hcall
        clear hcall hs HP H
        go_wp2_with fail
        refine HC.out.mono ?_
        rintro e w1 ⟨rfl, n1, hw1⟩
        have HW1 : Hid (w1 = w.drewN (n + n1)) := hw1
        clear hw1
        go_wp2
        go_roundw
        case rel => exact ⟨k + 1, n + n1, _, by omega, by go_num, rfl, HP2.out, HW1.out⟩
        case measure => simp [intOf]; omega
      · obtain rfl : k = m := by omega
        have hx := FIN.out x HP.out
        have HXF : Hid (x = psum x0 ls) := hx
        clear hx HP H
        have HW2 : Hid (wr.drew = w.drewN (n + 1)) := by show _ = _; rw [HW.out]; simp
        by_cases hlh : lo < hi
        · have HF : Hid (facS lo hi = wrap64 (hi + 1)) := by show _ = _; rw [facS, if_pos hlh]
          go_wp2
          go_region
          all_goals
            go_wp2
            go_ret
            exact ⟨ret_int (by rw [HZ.out, ← HXF.out, HF.out]), n + 1, HW2.out⟩
        · have HF : Hid (facS lo hi = wrap64 (lo + 1)) := by show _ = _; rw [facS, if_neg hlh]
          go_wp2
          go_region
          all_goals
            go_wp2
            go_ret
            exact ⟨ret_int (by rw [HZ.out, ← HXF.out, HF.out]), n + 1, HW2.out⟩
  · have hb13 : (op == 13) = false := by simp [h13]
    have hb17 : (op == 17) = false := by simp [h17]
    have HX0 : Hid (x0 = 1 + (nr : Int)) := by show _ = _; rw [← HX.out]; simp [ownS, h13]
    have HZ : Hid (sizeS op nr lo hi ls = psum x0 ls) := by show _ = _; rw [← HX.out]; simp [sizeS, h17]
    clear h13 h17
    go_enter Try.func9, Try.ntmps9
    go_wp2
    go_loopw [3, 24] (fun vn vi wr => ∃ (k n : Nat) (x : Int), k ≤ m ∧ vi = .int .i64 k ∧ vn = .int .i64 x ∧ Hid (psum x (ls.drop k) = psum x0 ls) ∧ Hid (wr = w.drewN n)) (fun _ vi _ => m - (intOf vi).toNat)
    case atStart => exact ⟨0, 0, _, Nat.zero_le _, rfl, rfl, by show _ = _; rw [← HX0.out]; rfl, rfl⟩
    case round =>
      obtain ⟨k, n, x, hk, rfl, rfl, HP, HW⟩ := hrel
      have d0 : wr.cell? ⟨L, 0, none⟩ = some (.int .u8 op) := by rw [HW.out]; exact c0
      have d7 : wr.cell? ⟨L, 7, none⟩ = some (.int .i64 lo) := by rw [HW.out]; exact c7
      have d8 : wr.cell? ⟨L, 8, none⟩ = some (.int .i64 hi) := by rw [HW.out]; exact c8
      by_cases hlt : k < m
      · obtain ⟨S, rfl, hcS, hg⟩ := H.out k (by rw [HM.out]; exact hlt)
        have dS : wr.cell? ⟨S, k, none⟩ = some (.pointer (some ⟨Ls[k]'(by rw [HM.out]; exact hlt), 0, none⟩)) := by rw [HW.out]; exact hcS
        have hcall := hg n
        rw [← HW.out] at hcall
        clear hcS hg
        obtain ⟨Lk, hLk⟩ : ∃ q, Ls[k]'(by rw [HM.out]; exact hlt) = q := ⟨_, rfl⟩
        rw [hLk] at dS hcall
        clear hLk
        obtain ⟨s, hs⟩ : ∃ s, ls.getD k 0 = s := ⟨_, rfl⟩
        rw [hs] at hcall
        have HP2 : Hid (psum (wrap64 (x + s)) (ls.drop (k + 1)) = psum x0 ls) := by
          show _ = _
          rw [← HP.out, List.drop_eq_getElem_cons (i := k) (by rw [hls, HM.out]; exact hlt)]
          rw [← hs, List.getD_eq_getElem?_getD, List.getElem?_eq_getElem (by rw [hls, HM.out]; exact hlt)]
          rfl
        have HC : Hid (Calls Try.prog 9 #[.pointer (some ⟨Lk, 0, none⟩)] wr fun e w' => e = .returned (.int .i64 s) ∧ ∃ n', w' = w.drewN (n + n')) := hcall
        clear hcall hs HP H
        go_wp2_with fail
        refine HC.out.mono ?_
        rintro e w1 ⟨rfl, n1, hw1⟩
        have HW1 : Hid (w1 = w.drewN (n + n1)) := hw1
        clear hw1
        go_wp2
        go_roundw
        case rel => exact ⟨k + 1, n + n1, _, by omega, by go_num, rfl, HP2.out, HW1.out⟩
        case measure => simp [intOf]; omega
      · obtain rfl : k = m := by omega
        have hx := FIN.out x HP.out
        have HXF : Hid (x = psum x0 ls) := hx
        clear hx HP H
        go_wp2
        go_ret
        exact ⟨ret_int (by rw [HZ.out]; exact HXF.out), n, HW.out⟩

/-- A node as it lies in memory. -/
def nodeObj (op : Int) (ro : Option Addr) (nr rc : Nat) (lo hi : Int) (sub : Value) : Obj :=
  .cells #[.int .u8 op, .int .u16 0, sub, .pointer none, .slice ro nr rc, .int .i32 0, .int .i32 0, .int .i64 lo, .int .i64 hi, .int .i64 0, .string { data := #[] }] 37

theorem node_gives (op lo hi : Int) (ro : Option Addr) (nr rc : Nat) (L : Nat) (so : Option Addr) (Ls : List Nat) (ls : List Int) (w : World) (hnr : nr ≤ 262144)
    (hls : ls.length = Ls.length) (hlen : Ls.length ≤ 2) (h : w.heap[L]? = some (nodeObj op ro nr rc lo hi (.slice so Ls.length Ls.length)))
    (hsub : ∀ j (h : j < Ls.length), ∃ S, so = some ⟨S, 0, none⟩ ∧ w.cell? ⟨S, j, none⟩ = some (.pointer (some ⟨Ls[j], 0, none⟩)) ∧ Gives w Ls[j] (ls.getD j 0)) :
    Gives w L (sizeS op nr lo hi ls) := by
  intro n
  have hh : (w.drewN n).heap[L]? = some (nodeObj op ro nr rc lo hi (.slice so Ls.length Ls.length)) := h
  refine (node_any op lo hi ro nr rc L so Ls ls (w.drewN n) hnr hls hlen (by simp [World.cell?, h, nodeObj]) (by simp [World.cell?, h, nodeObj]) (by simp [World.cell?, h, nodeObj]) (by simp [World.cell?, h, nodeObj]) (by simp [World.cell?, h, nodeObj]) ?_).mono ?_
  · intro j hj
    obtain ⟨S, e1, e2, e3⟩ := hsub j hj
    refine ⟨S, e1, e2, fun n2 => ?_⟩
    rw [World.drewN_drewN]
    refine (e3 (n + n2)).mono ?_
    rintro e w' ⟨rfl, n3, rfl⟩
    exact ⟨rfl, n3, by rw [World.drewN_drewN, Nat.add_assoc]⟩
  · rintro e w' ⟨rfl, n3, rfl⟩
    exact ⟨rfl, n3, by rw [World.drewN_drewN]⟩

theorem leaf_gives (op lo hi : Int) (ro : Option Addr) (nr rc : Nat) (L : Nat) (w : World) (hnr : nr ≤ 262144) (h : w.heap[L]? = some (nodeObj op ro nr rc lo hi (.slice none 0 0))) :
    Gives w L (sizeS op nr lo hi []) :=
  node_gives op lo hi ro nr rc L none [] [] w hnr rfl (by simp) h (fun j hj => by simp at hj)

theorem Gives.call {w : World} {L : Nat} {s : Int} (h : Gives w L s) : Calls Try.prog 9 #[.pointer (some ⟨L, 0, none⟩)] w fun e w' => e = .returned (.int .i64 s) ∧ ∃ n, w' = w.drewN n := by
  refine (h 0).mono ?_
  rintro e w' ⟨rfl, n, rfl⟩
  exact ⟨rfl, 0 + n, rfl⟩

set_option maxHeartbeats 400000 in
theorem size0_any (op lo hi : Int) (ro : Option Addr) (nr rc : Nat) (w : World) (hnr : nr ≤ 262144) :
    Calls Try.prog 5 #[.int .u8 op, .slice ro nr rc, .int .i64 lo, .int .i64 hi] w fun e w' => e = .returned (.int .i64 (sizeS op nr lo hi [])) ∧ Below w.heap.size w w' := by
  have hg := leaf_gives op lo hi ro nr rc w.heap.size (w.alloc (nodeObj op ro nr rc lo hi (.slice none 0 0))) hnr (heap_alloc_new _ _)
  have HG : Hid (Gives (w.alloc (nodeObj op ro nr rc lo hi (.slice none 0 0))) w.heap.size (sizeS op nr lo hi [])) := hg
  clear hg
  go_enter Try.func5, Try.ntmps5
  go_wp2_with fail
  refine HG.out.call.mono ?_
  rintro e w1 ⟨rfl, n, hw1⟩
  have hb : Below w.heap.size w w1 := by rw [hw1]; exact below_drewN ((Below.refl _ _).alloc (Nat.le_refl _) _) n
  clear hw1
  go_wp2
  go_ret
  exact ⟨rfl, hb⟩

theorem heap_old {w : World} {k : Nat} {o x : Obj} (h : w.heap[k]? = some o) : (w.alloc x).heap[k]? = some o :=
  (Below.heap_alloc _ _ _ (by obtain ⟨hlt, _⟩ := Array.getElem?_eq_some_iff.1 h; exact hlt)).trans h

theorem heap_new {w : World} {k : Nat} {o : Obj} (h : k = w.heap.size) : (w.alloc o).heap[k]? = some o := by subst h; exact heap_alloc_new _ _

theorem cell_of_heap {w : World} {S j : Nat} {cs : Array Value} {t : TypeId} {v : Value} (h : w.heap[S]? = some (.cells cs t)) (hv : cs[j]? = some v) : w.cell? ⟨S, j, none⟩ = some v := by
  simp [World.cell?, h, hv]

/-- One leaf under a node: the world in which the node lies. -/
def w3 (w : World) (op : Int) (ro : Option Addr) (nr rc : Nat) (lo hi : Int) (aop : Int) (aro : Option Addr) (anr arc : Nat) (alo ahi : Int) : World :=
  ((w.alloc (nodeObj aop aro anr arc alo ahi (.slice none 0 0))).alloc (.cells #[.pointer (some ⟨w.heap.size, 0, none⟩)] 29)).alloc (nodeObj op ro nr rc lo hi (.slice (some ⟨w.heap.size + 1, 0, none⟩) 1 1))

theorem w3_gives (w : World) (op : Int) (ro : Option Addr) (nr rc : Nat) (lo hi : Int) (aop : Int) (aro : Option Addr) (anr arc : Nat) (alo ahi : Int) (hnr : nr ≤ 262144) (hanr : anr ≤ 262144) :
    Gives (w3 w op ro nr rc lo hi aop aro anr arc alo ahi) (w.heap.size + 1 + 1) (sizeS op nr lo hi [sizeS aop anr alo ahi []]) := by
  refine node_gives op lo hi ro nr rc _ (some ⟨w.heap.size + 1, 0, none⟩) [w.heap.size] [sizeS aop anr alo ahi []] _ hnr rfl (by simp) (heap_new (by simp)) ?_
  intro j hj
  obtain rfl : j = 0 := by simp at hj; omega
  refine ⟨w.heap.size + 1, rfl, cell_of_heap (heap_old (heap_new (by simp))) rfl, ?_⟩
  exact leaf_gives aop alo ahi aro anr arc w.heap.size _ hanr (heap_old (heap_old (heap_new rfl)))

theorem w3_below (w : World) (op : Int) (ro : Option Addr) (nr rc : Nat) (lo hi : Int) (aop : Int) (aro : Option Addr) (anr arc : Nat) (alo ahi : Int) : Below w.heap.size w (w3 w op ro nr rc lo hi aop aro anr arc alo ahi) :=
  (((Below.refl _ _).alloc (Nat.le_refl _) _).alloc (by simp) _).alloc (by simp; omega) _

set_option maxHeartbeats 400000 in
theorem size1_any (op lo hi : Int) (ro : Option Addr) (nr rc : Nat) (aop alo ahi : Int) (aro : Option Addr) (anr arc : Nat) (w : World) (hnr : nr ≤ 262144) (hanr : anr ≤ 262144) :
    Calls Try.prog 6 #[.int .u8 op, .slice ro nr rc, .int .i64 lo, .int .i64 hi, .int .u8 aop, .slice aro anr arc, .int .i64 alo, .int .i64 ahi] w fun e w' => e = .returned (.int .i64 (sizeS op nr lo hi [sizeS aop anr alo ahi []])) ∧ Below w.heap.size w w' := by
  have HG : Hid (Gives (w3 w op ro nr rc lo hi aop aro anr arc alo ahi) (w.heap.size + 1 + 1) (sizeS op nr lo hi [sizeS aop anr alo ahi []])) := w3_gives w op ro nr rc lo hi aop aro anr arc alo ahi hnr hanr
  go_enter Try.func6, Try.ntmps6
  go_wp2_with fail
  refine HG.out.call.mono ?_
  rintro e w1 ⟨rfl, n, hw1⟩
  have hb : Below w.heap.size w w1 := by rw [hw1]; exact below_drewN (w3_below ..) n
  clear hw1
  go_wp2
  go_ret
  exact ⟨rfl, hb⟩

/-- Two leaves under a node. -/
def w4 (w : World) (op : Int) (ro : Option Addr) (nr rc : Nat) (lo hi : Int) (aop : Int) (aro : Option Addr) (anr arc : Nat) (alo ahi : Int) (bop : Int) (bro : Option Addr) (bnr brc : Nat) (blo bhi : Int) : World :=
  (((w.alloc (nodeObj aop aro anr arc alo ahi (.slice none 0 0))).alloc (nodeObj bop bro bnr brc blo bhi (.slice none 0 0))).alloc (.cells #[.pointer (some ⟨w.heap.size, 0, none⟩), .pointer (some ⟨w.heap.size + 1, 0, none⟩)] 29)).alloc (nodeObj op ro nr rc lo hi (.slice (some ⟨w.heap.size + 1 + 1, 0, none⟩) 2 2))

theorem w4_gives (w : World) (op : Int) (ro : Option Addr) (nr rc : Nat) (lo hi : Int) (aop : Int) (aro : Option Addr) (anr arc : Nat) (alo ahi : Int) (bop : Int) (bro : Option Addr) (bnr brc : Nat) (blo bhi : Int) (hnr : nr ≤ 262144) (hanr : anr ≤ 262144) (hbnr : bnr ≤ 262144) :
    Gives (w4 w op ro nr rc lo hi aop aro anr arc alo ahi bop bro bnr brc blo bhi) (w.heap.size + 1 + 1 + 1) (sizeS op nr lo hi [sizeS aop anr alo ahi [], sizeS bop bnr blo bhi []]) := by
  refine node_gives op lo hi ro nr rc _ (some ⟨w.heap.size + 1 + 1, 0, none⟩) [w.heap.size, w.heap.size + 1] [sizeS aop anr alo ahi [], sizeS bop bnr blo bhi []] _ hnr rfl (by simp) (heap_new (by simp)) ?_
  intro j hj
  rcases (show j = 0 ∨ j = 1 by simp at hj; omega) with rfl | rfl
  · exact ⟨w.heap.size + 1 + 1, rfl, cell_of_heap (heap_old (heap_new (by simp))) rfl, leaf_gives aop alo ahi aro anr arc w.heap.size _ hanr (heap_old (heap_old (heap_old (heap_new rfl))))⟩
  · exact ⟨w.heap.size + 1 + 1, rfl, cell_of_heap (heap_old (heap_new (by simp))) rfl, leaf_gives bop blo bhi bro bnr brc (w.heap.size + 1) _ hbnr (heap_old (heap_old (heap_new (by simp))))⟩

theorem w4_below (w : World) (op : Int) (ro : Option Addr) (nr rc : Nat) (lo hi : Int) (aop : Int) (aro : Option Addr) (anr arc : Nat) (alo ahi : Int) (bop : Int) (bro : Option Addr) (bnr brc : Nat) (blo bhi : Int) : Below w.heap.size w (w4 w op ro nr rc lo hi aop aro anr arc alo ahi bop bro bnr brc blo bhi) :=
  ((((Below.refl _ _).alloc (Nat.le_refl _) _).alloc (by simp) _).alloc (by simp; omega) _).alloc (by simp; omega) _

set_option maxHeartbeats 400000 in
theorem size2_any (op lo hi : Int) (ro : Option Addr) (nr rc : Nat) (aop alo ahi : Int) (aro : Option Addr) (anr arc : Nat) (bop blo bhi : Int) (bro : Option Addr) (bnr brc : Nat) (w : World) (hnr : nr ≤ 262144) (hanr : anr ≤ 262144) (hbnr : bnr ≤ 262144) :
    Calls Try.prog 7 #[.int .u8 op, .slice ro nr rc, .int .i64 lo, .int .i64 hi, .int .u8 aop, .slice aro anr arc, .int .i64 alo, .int .i64 ahi, .int .u8 bop, .slice bro bnr brc, .int .i64 blo, .int .i64 bhi] w fun e w' => e = .returned (.int .i64 (sizeS op nr lo hi [sizeS aop anr alo ahi [], sizeS bop bnr blo bhi []])) ∧ Below w.heap.size w w' := by
  have HG : Hid (Gives (w4 w op ro nr rc lo hi aop aro anr arc alo ahi bop bro bnr brc blo bhi) (w.heap.size + 1 + 1 + 1) (sizeS op nr lo hi [sizeS aop anr alo ahi [], sizeS bop bnr blo bhi []])) := w4_gives w op ro nr rc lo hi aop aro anr arc alo ahi bop bro bnr brc blo bhi hnr hanr hbnr
  go_enter Try.func7, Try.ntmps7
  go_wp2_with fail
  refine HG.out.call.mono ?_
  rintro e w1 ⟨rfl, n, hw1⟩
  have hb : Below w.heap.size w w1 := by rw [hw1]; exact below_drewN (w4_below ..) n
  clear hw1
  go_wp2
  go_ret
  exact ⟨rfl, hb⟩

/-- The law's own factor. -/
def kS (op lo hi : Int) : Int := if op = 17 then facS lo hi else 1

set_option maxHeartbeats 400000 in
theorem factor_any (op lo hi : Int) (w : World) :
    Calls Try.prog 8 #[.int .u8 op, .int .i64 lo, .int .i64 hi] w fun e w' => e = .returned (.int .i64 (kS op lo hi)) ∧ w' = w := by
  by_cases h : op = 17
  · have hb : (op != 17) = false := by simp [h]
    have HK : Hid (kS op lo hi = facS lo hi) := by show _ = _; rw [kS, if_pos h]
    clear h
    by_cases hlh : lo < hi
    · have HF : Hid (facS lo hi = wrap64 (hi + 1)) := by show _ = _; rw [facS, if_pos hlh]
      go_enter Try.func8, Try.ntmps8
      go_wp2
      go_ret
      exact ⟨ret_int (by rw [HK.out, HF.out]), rfl⟩
    · have HF : Hid (facS lo hi = wrap64 (lo + 1)) := by show _ = _; rw [facS, if_neg hlh]
      go_enter Try.func8, Try.ntmps8
      go_wp2
      go_ret
      exact ⟨ret_int (by rw [HK.out, HF.out]), rfl⟩
  · have hb : (op != 17) = true := by simp [h]
    have HK : Hid (kS op lo hi = 1) := by show _ = _; rw [kS, if_neg h]
    clear h
    go_enter Try.func8, Try.ntmps8
    go_wp2
    go_ret
    exact ⟨ret_int HK.out.symm, rfl⟩

def IsBool (e : Ending) : Prop := ∃ r : Bool, e = .returned (.bool r)

set_option maxHeartbeats 1000000 in
theorem bytes_any (op lo hi : Int) (ro : Option Addr) (nr rc : Nat) (aop alo ahi : Int) (aro : Option Addr) (anr arc : Nat) (bop blo bhi : Int) (bro : Option Addr) (bnr brc : Nat) (w : World) (hnr : nr ≤ 9223372036854775807) (hanr : anr ≤ 9223372036854775807) (hbnr : bnr ≤ 9223372036854775807) :
    Calls Try.prog 4 #[.int .u8 op, .slice ro nr rc, .int .i64 lo, .int .i64 hi, .int .u8 aop, .slice aro anr arc, .int .i64 alo, .int .i64 ahi, .int .u8 bop, .slice bro bnr brc, .int .i64 blo, .int .i64 bhi] w fun e w' => IsBool e ∧ w' = w := by
  go_enter Try.func4, Try.ntmps4
  go_wp2
  all_goals
    go_ret
    exact ⟨⟨_, rfl⟩, rfl⟩

end Go.Proofs.Qxb6608843a
