import Derived.Test.Qxb6608853aAdd
import Derived.Maps.OwnSet
namespace Go.Proofs.Qxb6608853a
open Go.RowKit Go.Maps Go.WideElems Go.WideMaps

theorem law : Keyed Try.prog 9 := string_keyed Try.underlying9
theorem zero30 (w : World) : (zeroValue 30).run Try.prog w = .ok (.pointer none) w := by kernel_rfl

/-- A definition as a value: a fragment's or a directive's (is it a fragment, its block, its name). -/
def defVal (p : Bool × Nat × ByteArray) : Value := if p.1 then .iface 30 (.pointer (some ⟨p.2.1, 0, none⟩)) else .iface 39 (.pointer (some ⟨p.2.1, 0, none⟩))

/-- The fragments among the definitions: name and block. -/
def ents (ds : List (Bool × Nat × ByteArray)) : List (List UInt8 × Nat) := (ds.filter (·.1)).map fun p => (p.2.2.data.toList, p.2.1)

/-- The map that they fill, as a datum (a pointer reads as its block's number). -/
def fm (l : List (List UInt8 × Nat)) : DataW Unit := l.foldl (fun D p => D.put (.string p.1) (.lit (.int .i64 (p.2 : Int)))) (.map [])

theorem fm_snoc (l : List (List UInt8 × Nat)) (p : List UInt8 × Nat) : fm (l ++ [p]) = (fm l).put (.string p.1) (.lit (.int .i64 (p.2 : Int))) := by simp [fm, List.foldl_append]

theorem ents_snoc (ds : List (Bool × Nat × ByteArray)) (b : Bool) (n : Nat) (s : ByteArray) : ents (ds ++ [(b, n, s)]) = ents ds ++ (if b then [(s.data.toList, n)] else []) := by
  cases b <;> simp [ents]

def ptrR : Value → Option (DataW Unit × List MemPlace)
  | .pointer none => some (.lit (.int .i64 (-1)), [])
  | .pointer (some a) => if a.off = 0 ∧ a.spot = none then some (.lit (.int .i64 (a.block : Int)), []) else none
  | _ => none

theorem ptrR_some (b : Nat) : ptrR (.pointer (some ⟨b, 0, none⟩)) = some (.lit (.int .i64 (b : Int)), []) := by simp [ptrR]

theorem ta30 (b : Nat) (w : World) : (Instr.typeAssert (.iface 30 (.pointer (some ⟨b, 0, none⟩))) 50 30 true).run Try.prog w = .ok (.tuple #[.pointer (some ⟨b, 0, none⟩), .bool true]) w := by kernel_rfl
theorem ta39 (b : Nat) (w : World) : (Instr.typeAssert (.iface 39 (.pointer (some ⟨b, 0, none⟩))) 50 30 true).run Try.prog w = .ok (.tuple #[.pointer none, .bool false]) w := by kernel_rfl

/-- The definitions of a document, cell by cell. -/
theorem doc_cells {B : Nat} {w : World} {D : Nat} {v : Value} {ds : List Value} (h : DocIs B w D v ds) :
    ∃ ao cap, v = .slice ao ds.length cap ∧ ∀ j (hj : j < ds.length), ∃ g, ao = some ⟨g, 0, none⟩ ∧ w.cell? ⟨g, j, none⟩ = some ds[j] := by
  obtain ⟨hl, (⟨rfl, hn⟩ | ⟨g, cap, cur, rfl, hB, hg, _, _, hs, ht⟩)⟩ := h.row
  · exact ⟨none, 0, by rw [hn], fun j hj => by omega⟩
  · refine ⟨some ⟨g, 0, none⟩, cap, rfl, fun j hj => ⟨g, rfl, ?_⟩⟩
    have e : cur[j]? = some ds[j] := by
      have h1 : (cur.toList.take (ds.length * 1))[j]? = some ds[j] := by rw [ht]; simp [hj]
      rw [List.getElem?_take_of_lt (by omega)] at h1
      simpa using h1
    simp [World.cell?, hg, e]

set_option maxHeartbeats 1000000 in
theorem frags_any (B D : Nat) (v : Value) (ds : List (Bool × Nat × ByteArray)) (w : World) (h : DocIs B w D v (ds.map defVal)) (hl : ds.length ≤ 65537)
    (hn : ∀ b s, (true, b, s) ∈ ds → w.cell? ⟨b, 0, none⟩ = some (.string s) ∧ s.size ≤ maxLen) :
    Calls Try.prog 8 #[.pointer (some ⟨D, 0, none⟩)] w fun e w' => e = .returned (.map (some w.heap.size)) ∧ w'.ownsMap Try.prog 9 ptrR w.heap.size ds.length (fm (ents ds)) ∧ Below w.heap.size w w' := by
  have hmm := @run_makeMap Try.prog
  have c0 : w.cell? ⟨D, 0, none⟩ = some v := by simp [World.cell?, h.box]
  have hD := lt_of_heap h.box
  obtain ⟨ao, cap, rfl, hc⟩ := doc_cells h
  obtain ⟨n, hnl⟩ : ∃ n, ds.length = n := ⟨_, rfl⟩
  have HNL : Hid (ds.length = n) := hnl
  have e1 : (ds.map defVal).length = n := by simp [hnl]
  rw [e1] at c0
  rw [hnl] at hl
  have HC : Hid (∀ j (hj : j < (ds.map defVal).length), ∃ g, ao = some ⟨g, 0, none⟩ ∧ w.cell? ⟨g, j, none⟩ = some (ds.map defVal)[j]) := hc
  have HN : Hid (∀ b s, (true, b, s) ∈ ds → w.cell? ⟨b, 0, none⟩ = some (.string s) ∧ s.size ≤ maxLen) := hn
  clear hc hn h hnl e1
  go_enter Try.func8, Try.ntmps8
  go_wp2_with fail
  go_loopw [14] (fun vi wr => ∃ k : Nat, k ≤ n ∧ vi = .int .i64 k ∧ wr.ownsMap Try.prog 9 ptrR w.heap.size k (fm (ents (ds.take k))) ∧ Below w.heap.size w wr) (fun vi _ => n - (intOf vi).toNat)
  case atStart => exact ⟨0, Nat.zero_le _, rfl, World.ownsMap_made _ _ _ _, (Below.refl _ _).alloc (Nat.le_refl _) _⟩
  case round =>
    obtain ⟨k, hk, rfl, hown, hb⟩ := hrel
    by_cases hlt : k < n
    · have hkd : k < ds.length := by rw [HNL.out]; exact hlt
      obtain ⟨g, rfl, hcg⟩ := HC.out k (by simpa using hkd)
      obtain ⟨⟨f, b, s⟩, hfb⟩ : ∃ p, ds[k] = p := ⟨_, rfl⟩
      have hw : wr.cell? ⟨g, k, none⟩ = some (defVal (f, b, s)) := by
        rw [hb.cell (p := ⟨g, k, none⟩) (World.block_lt_of_cell? _ _ hcg), hcg, ← hfb]; simp
      have HT : Hid (ents (ds.take (k + 1)) = ents (ds.take k) ++ (if f then [(s.data.toList, b)] else [])) := by
        show _ = _
        rw [List.take_succ_eq_append_getElem hkd, hfb, ents_snoc]
      cases f
      · have hw' : wr.cell? ⟨g, k, none⟩ = some (.iface 39 (.pointer (some ⟨b, 0, none⟩))) := hw
        have hta := fun w => ta39 b w
        have HT2 : Hid (ents (ds.take (k + 1)) = ents (ds.take k)) := by show _ = _; rw [HT.out]; simp
        clear hw hcg HC HT
        go_wp2
        go_roundw
        case rel => exact ⟨k + 1, by omega, by go_num, by rw [HT2.out]; exact hown.mono (by omega), hb⟩
        case measure => simp [intOf]; omega
      · have hw' : wr.cell? ⟨g, k, none⟩ = some (.iface 30 (.pointer (some ⟨b, 0, none⟩))) := hw
        obtain ⟨hnb, hnsz⟩ := HN.out b s (by rw [← hfb]; exact List.getElem_mem _)
        have hnb' : wr.cell? ⟨b, 0, none⟩ = some (.string s) := (hb.cell (p := ⟨b, 0, none⟩) (World.block_lt_of_cell? _ _ hnb)).trans hnb
        have hta := fun w => ta30 b w
        have HT2 : Hid (fm (ents (ds.take (k + 1))) = (fm (ents (ds.take k))).put (.string s.data.toList) (.lit (.int .i64 (b : Int)))) := by
          show _ = _; rw [HT.out, if_pos rfl, fm_snoc]
        clear hw hcg HC hnb HT
        go_wp2_with (at_mapUpdate; refine wpList_mapUpdate_own _ rfl _ _ _ 46 rfl 9 30 law Try.underlying46 ptrR w.heap.size k _ rfl hown (by unfold maxLen; omega) _ _ _ rfl rfl (keyOf_string_mk Try.underlying9 hnsz) _ [] (ptrR_some b) ?_; intro w1 hown1 hgrow1)
        go_roundw
        case rel => exact ⟨k + 1, by omega, by go_num, by rw [HT2.out]; exact hown1, hb.grown hgrow1 hb.size (fun j hj => by cases hj; exact Nat.le_refl _)⟩
        case measure => simp [intOf]; omega
    · obtain rfl : k = n := by omega
      have HT : Hid (ds.take k = ds) := List.take_of_length_le (by rw [HNL.out]; omega)
      go_wp2
      go_ret
      exact ⟨rfl, by rw [HNL.out]; have := hown; rw [HT.out] at this; exact this, hb⟩

end Go.Proofs.Qxb6608853a
