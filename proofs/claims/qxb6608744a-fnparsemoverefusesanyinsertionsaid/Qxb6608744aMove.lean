import Derived.Test.Qxb6608744aRows
import Derived.WalkKit
import Derived.WalkSpells
import Derived.WalkLawsBesides
import Derived.Deep.QuietTactic
import Derived.BigQuiet
import Derived.BigRegion
import Derived.ChangeAlike
namespace Go.Proofs.Qxb6608744a
open Go.RowKit

def isMoveB (ss : List ByteArray) : Bool :=
  ss.length == 5 && (ss.getD 1 ByteArray.empty).toList == [102, 114, 111, 109] && (ss.getD 3 ByteArray.empty).toList == [116, 111]

theorem ret_bool {a b : Bool} (h : a = b) : Ending.returned (.bool a) = .returned (.bool b) := by rw [h]

/-- Block 'L' is a script line whose four fields hold t, n, f, o. -/
def lineObj (t n f o : ByteArray) : Obj :=
  .cells #[.int .i64 0, .string ByteArray.empty, .string ByteArray.empty, .string t, .string ByteArray.empty, .string n, .slice none 0 0, .slice none 0 0, .string f, .string o, .int .u8 0, .pointer none, .int .i64 0] 38 (0, 0)

set_option maxHeartbeats 400000 in
theorem newLine_any (t n f o : ByteArray) (w : World) :
    Calls Try.prog 7 #[.string t, .string n, .string f, .string o] w fun e w' => e = .returned (.pointer (some ⟨w.heap.size, 0, none⟩)) ∧ w' = w.alloc (lineObj t n f o) := by
  go_enter Try.func7, Try.ntmps7
  go_wp2
  go_ret
  exact ⟨rfl, rfl⟩

set_option maxHeartbeats 400000 in
theorem fields_any (t n f o : ByteArray) (L : Nat) (w : World) (h3 : w.cell? ⟨L, 3, none⟩ = some (.string t)) (h5 : w.cell? ⟨L, 5, none⟩ = some (.string n)) (h8 : w.cell? ⟨L, 8, none⟩ = some (.string f)) (h9 : w.cell? ⟨L, 9, none⟩ = some (.string o)) :
    Calls Try.prog 9 #[.pointer (some ⟨L, 0, none⟩)] w fun e w' => e = .returned (.tuple #[.string t, .string n, .string f, .string o]) ∧ ∃ k, w' = w.drewN k := by
  go_enter Try.func9, Try.ntmps9
  go_wp2
  go_quiet (fail)
  go_wp2
  exact bodyPost_ret (v := .tuple #[.string t, .string n, .string f, .string o]) (by simp [results, Try.results9, go_sem]) rfl ⟨rfl, _, rfl⟩

set_option maxHeartbeats 400000 in
theorem isMove_any (a : Option Addr) (len cap : Nat) (ss : List ByteArray) (w : World) (hl : ss.length = len)
    (hc : ∀ i, i < ss.length → ∃ b o, a = some ⟨b, o, none⟩ ∧ w.cell? ⟨b, o + i, none⟩ = some (.string (ss.getD i ByteArray.empty))) :
    Calls Try.prog 10 #[.slice a len cap] w fun e w' => e = .returned (.bool (isMoveB ss)) ∧ w' = w := by
  by_cases h5 : len = 5
  · obtain ⟨b, o, rfl, hc1⟩ := hc 1 (by omega)
    obtain ⟨b', o', e, hc3⟩ := hc 3 (by omega)
    cases e
    clear hc
    obtain ⟨s1, hs1⟩ : ∃ s, s = ss.getD 1 ByteArray.empty := ⟨_, rfl⟩
    obtain ⟨s3, hs3⟩ : ∃ s, s = ss.getD 3 ByteArray.empty := ⟨_, rfl⟩
    rw [← hs1] at hc1
    rw [← hs3] at hc3
    have H : Hid (isMoveB ss = ((s1.toList == [102, 114, 111, 109]) && (s3.toList == [116, 111]))) := by
      show isMoveB ss = _
      rw [isMoveB, ← hs1, ← hs3, hl, h5]; simp
    clear hs1 hs3 hl
    subst h5
    go_enter Try.func10, Try.ntmps10
    go_wp2
    · have h1 : s1.toList = [102, 114, 111, 109] := by assumption
      go_ret
      exact ⟨ret_bool (by rw [H.out, h1]; simp), rfl⟩
    · have h1 : ¬ s1.toList = [102, 114, 111, 109] := by assumption
      go_ret
      exact ⟨ret_bool (by rw [H.out]; simp [h1]), rfl⟩
  · have hb : ((len : Int) == 5) = false := by simp; omega
    have H : Hid (isMoveB ss = false) := by
      show isMoveB ss = _
      rw [isMoveB, hl]; simp [h5]
    clear hc hl h5
    go_enter Try.func10, Try.ntmps10
    go_wp2
    go_ret
    rw [H.out]
    exact ⟨rfl, rfl⟩


theorem heap_setCell (w : World) (L k : Nat) (v : Value) (c : Array Value) (e : TypeId) (f : Nat × Nat) (h : w.heap[L]? = some (.cells c e f)) :
    (w.setCell ⟨L, k, none⟩ v).heap[L]? = some (.cells (c.setIfInBounds k v) e f) := by
  simp [World.setCell, Array.getElem?_modify, h]

theorem line_end (w : World) (L : Nat) (t n f p s0 s2 s4 : ByteArray) (h : w.heap[L]? = some (lineObj t n f p)) :
    (((w.setCell ⟨L, 5, none⟩ (.string s0)).setCell ⟨L, 8, none⟩ (.string s2)).setCell ⟨L, 9, none⟩ (.string s4)).drew.heap[L]? = some (lineObj t s0 s2 s4) ∧
    Below L w (((w.setCell ⟨L, 5, none⟩ (.string s0)).setCell ⟨L, 8, none⟩ (.string s2)).setCell ⟨L, 9, none⟩ (.string s4)).drew := by
  refine ⟨?_, ?_⟩
  · exact heap_setCell _ _ 9 _ _ _ _ (heap_setCell _ _ 8 _ _ _ _ (heap_setCell _ _ 5 _ _ _ _ h))
  · refine Below.drew ?_
    refine Below.setCell (p := ⟨L, 9, none⟩) ?_ (Nat.le_refl _) _
    refine Below.setCell (p := ⟨L, 8, none⟩) ?_ (Nat.le_refl _) _
    refine Below.setCell (p := ⟨L, 5, none⟩) ?_ (Nat.le_refl _) _
    exact Below.refl _ _

theorem line_new (w : World) (L : Nat) (t n f p : ByteArray) (x : Obj) (h : w.heap[L]? = some (lineObj t n f p)) (hL : L < w.heap.size) :
    (w.alloc x).heap[L]? = some (lineObj t n f p) ∧ Below L w (w.alloc x) :=
  ⟨(Below.heap_alloc _ _ _ hL).trans h, (Below.refl _ _).alloc (Nat.le_of_lt hL) _⟩

set_option maxHeartbeats 400000 in
theorem errNew_any (t : ByteArray) (w : World) :
    Calls Try.prog 12 #[.string t] w fun e w' => e = .returned (.iface 40 (.pointer (some ⟨w.heap.size, 0, none⟩))) ∧ w' = w.alloc (.cells #[.string t] 42) := by
  go_enter Try.func12, Try.ntmps12
  go_wp2
  go_ret
  exact ⟨rfl, rfl⟩

set_option maxHeartbeats 400000 in
theorem parse_yes (b o cap : Nat) (s0 s1 s2 s3 s4 : ByteArray) (t n f p : ByteArray) (L : Nat) (w : World)
    (hL : w.heap[L]? = some (lineObj t n f p)) (hbL : b < L)
    (c0 : w.cell? ⟨b, o, none⟩ = some (.string s0)) (c1 : w.cell? ⟨b, o + 1, none⟩ = some (.string s1)) (c2 : w.cell? ⟨b, o + 2, none⟩ = some (.string s2)) (c3 : w.cell? ⟨b, o + 3, none⟩ = some (.string s3)) (c4 : w.cell? ⟨b, o + 4, none⟩ = some (.string s4))
    (h1 : s1.toList = [102, 114, 111, 109]) (h3 : s3.toList = [116, 111]) :
    Calls Try.prog 11 #[.pointer (some ⟨L, 0, none⟩), .slice (some ⟨b, o, none⟩) 5 cap] w fun e w' => e = .returned .nilIface ∧ w'.heap[L]? = some (lineObj t s0 s2 s4) ∧ Below L w w' := by
  have l5 : w.cell? ⟨L, 5, none⟩ = some (.string n) := by simp [World.cell?, hL, lineObj]
  have l8 : w.cell? ⟨L, 8, none⟩ = some (.string f) := by simp [World.cell?, hL, lineObj]
  have l9 : w.cell? ⟨L, 9, none⟩ = some (.string p) := by simp [World.cell?, hL, lineObj]
  have f5 : w.frozen? ⟨L, 5, none⟩ = false := by simp [World.frozen?, hL, lineObj]
  have f8 : w.frozen? ⟨L, 8, none⟩ = false := by simp [World.frozen?, hL, lineObj]
  have f9 : w.frozen? ⟨L, 9, none⟩ = false := by simp [World.frozen?, hL, lineObj]
  have hne : ¬ b = L := by omega
  have HL : Hid (w.heap[L]? = some (lineObj t n f p)) := hL
  clear hL
  go_enter Try.func11, Try.ntmps11
  go_wp2
  go_region
  all_goals go_wp2
  all_goals go_ret
  exact ⟨rfl, line_end w L t n f p s0 s2 s4 HL.out⟩

set_option maxHeartbeats 400000 in
theorem parse_no (a : Option Addr) (len cap : Nat) (ss : List ByteArray) (t n f p : ByteArray) (L : Nat) (w : World) (hl : ss.length = len)
    (hL : w.heap[L]? = some (lineObj t n f p)) (hLw : L < w.heap.size)
    (hc : ∀ i, i < ss.length → ∃ b o, a = some ⟨b, o, none⟩ ∧ w.cell? ⟨b, o + i, none⟩ = some (.string (ss.getD i ByteArray.empty)))
    (hno : isMoveB ss = false) :
    Calls Try.prog 11 #[.pointer (some ⟨L, 0, none⟩), .slice a len cap] w fun e w' => (∃ x, e = .returned (.iface 40 x)) ∧ w'.heap[L]? = some (lineObj t n f p) ∧ Below L w w' := by
  have HL : Hid (w.heap[L]? = some (lineObj t n f p)) := hL
  clear hL
  by_cases h5 : len = 5
  · obtain ⟨b, o, rfl, hc1⟩ := hc 1 (by omega)
    obtain ⟨b', o', e, hc3⟩ := hc 3 (by omega)
    cases e
    clear hc
    obtain ⟨s1, hs1⟩ : ∃ s, s = ss.getD 1 ByteArray.empty := ⟨_, rfl⟩
    obtain ⟨s3, hs3⟩ : ∃ s, s = ss.getD 3 ByteArray.empty := ⟨_, rfl⟩
    rw [← hs1] at hc1
    rw [← hs3] at hc3
    have hno' : ¬ (s1.toList = [102, 114, 111, 109] ∧ s3.toList = [116, 111]) := by
      rw [isMoveB, ← hs1, ← hs3, hl, h5] at hno
      intro ⟨e1, e3⟩
      rw [e1, e3] at hno
      simp at hno
    have H : Hid (¬ (s1.toList = [102, 114, 111, 109] ∧ s3.toList = [116, 111])) := hno'
    clear hs1 hs3 hl hno hno'
    subst h5
    by_cases h1 : s1.toList = [102, 114, 111, 109]
    · have h3 : (s3.toList == [116, 111]) = false := beq_eq_false_iff_ne.2 fun h => H.out ⟨h1, h⟩
      go_enter Try.func11, Try.ntmps11
      go_wp2_with (go_at_call 12; refine (errNew_any _ _).mono ?_; rintro e w' ⟨rfl, rfl⟩)
      go_ret
      exact ⟨⟨_, rfl⟩, line_new w L t n f p _ HL.out hLw⟩
    · have h1' : (s1.toList == [102, 114, 111, 109]) = false := beq_eq_false_iff_ne.2 h1
      clear h1
      go_enter Try.func11, Try.ntmps11
      go_wp2_with (go_at_call 12; refine (errNew_any _ _).mono ?_; rintro e w' ⟨rfl, rfl⟩)
      go_ret
      exact ⟨⟨_, rfl⟩, line_new w L t n f p _ HL.out hLw⟩
  · have hb : ((len : Int) != 5) = true := by simp; omega
    clear hc hl h5
    go_enter Try.func11, Try.ntmps11
    go_wp2_with (go_at_call 12; refine (errNew_any _ _).mono ?_; rintro e w' ⟨rfl, rfl⟩)
    go_ret
    exact ⟨⟨_, rfl⟩, line_new w L t n f p _ HL.out hLw⟩

end Go.Proofs.Qxb6608744a
