import Derived.Test.Qxb6608853aPos
import Derived.LaidEqlPtr
namespace Go.Proofs.Qxb6608853a
open Go.RowKit Go.Maps

theorem Mem.names {w wr : World} {F : Nat} {nm : Nat → ByteArray} {isf : Nat → Bool} {n i : Nat} {bs : Nat → Nat} (h : Mem w wr F nm isf n i bs) (hs : ∀ t, t < i → (nm t).size ≤ maxLen) {j m : Nat} (hjm : j + m ≤ i) :
    ∀ b s, (true, b, s) ∈ dsOf isf bs nm j m → wr.cell? ⟨b, 0, none⟩ = some (.string s) ∧ s.size ≤ maxLen := by
  intro b s hm
  unfold dsOf at hm
  obtain ⟨t, ht, e⟩ := List.mem_map.1 hm
  have ht' := List.mem_range'_1.1 ht
  simp only [Prod.mk.injEq] at e
  obtain ⟨e1, rfl, rfl⟩ := e
  exact ⟨by simp [World.cell?, h.frag t (by omega) e1, fragObj], hs t (by omega)⟩

theorem Mem.drewN {w wr : World} {F : Nat} {nm : Nat → ByteArray} {isf : Nat → Bool} {n i : Nat} {bs : Nat → Nat} (h : Mem w wr F nm isf n i bs) (q : Nat) : Mem w (wr.drewN q) F nm isf n i bs :=
  ⟨h.frow, h.frag, h.inj, below_drewN h.below q, h.low⟩

/-- What the check loop stands on. -/
structure Chk (w wr : World) (F : Nat) (nm : Nat → ByteArray) (isf : Nat → Bool) (n c : Nat) (bs : Nat → Nat) (Ma Ml Mr : Nat) : Prop where
  mem : Mem w wr F nm isf n n bs
  ma : MapHas wr Ma (ents (dsOf isf bs nm 0 n))
  ml : MapHas wr Ml (ents (dsOf isf bs nm 0 c))
  mr : MapHas wr Mr (ents (dsOf isf bs nm c (n - c)))

theorem Chk.drewN {w wr : World} {F : Nat} {nm : Nat → ByteArray} {isf : Nat → Bool} {n c : Nat} {bs : Nat → Nat} {Ma Ml Mr : Nat} (h : Chk w wr F nm isf n c bs Ma Ml Mr) (q : Nat) : Chk w (wr.drewN q) F nm isf n c bs Ma Ml Mr :=
  ⟨h.mem.drewN q, h.ma.later rfl, h.ml.later rfl, h.mr.later rfl⟩

theorem frag_cells {wr : World} {b : Nat} {s : ByteArray} {l : Int} (h : wr.heap[b]? = some (fragObj s l)) : wr.cell? ⟨b, 0, none⟩ = some (.string s) ∧ wr.cell? ⟨b, 4, none⟩ = some (.int .i64 l) := by
  simp [World.cell?, h, fragObj]

theorem Mem.ptr {w wr : World} {F : Nat} {nm : Nat → ByteArray} {isf : Nat → Bool} {n i : Nat} {bs : Nat → Nat} (h : Mem w wr F nm isf n i bs) {t : Nat} (ht : t < i) (hf : isf t = true) : wr.cell? ⟨F, t, none⟩ = some (.pointer (some ⟨bs t, 0, none⟩)) := by
  obtain ⟨cur, h1, _, h3⟩ := h.frow
  simp [World.cell?, h1, h3 t ht hf]

theorem under30 : Try.prog.underlying 30 = some (.pointer 37) := by kernel_rfl
theorem info37 : (Try.prog.info? 37).map (fun i => i.size) = some 8 := by kernel_rfl

theorem equal_same (b : Nat) (w : World) : (Op.equal 30 (.pointer (some ⟨b, 0, none⟩)) (.pointer (some ⟨b, 0, none⟩))).run Try.prog w = .ok true w := by
  obtain ⟨j, hj, _⟩ := Option.map_eq_some_iff.1 info37
  have h : ∀ d : Nat, (Op.equalIn (d + 1) 30 (.pointer (some ⟨b, 0, none⟩)) (.pointer (some ⟨b, 0, none⟩))).run Try.prog w = .ok true w := fun d => by
    simp [Op.equalIn, run_underlying under30, sizeOf, typeInfo, hj, run_sameAddr_same]
  exact h 9999

theorem eql_same (b : Nat) (w : World) : (binOp .eql 30 (.pointer (some ⟨b, 0, none⟩)) (.pointer (some ⟨b, 0, none⟩))).run Try.prog w = .ok (.bool true) w := by
  simp only [binOp]
  simp [equal_same b w]
theorem neq_same (b : Nat) (w : World) : (binOp .neq 30 (.pointer (some ⟨b, 0, none⟩)) (.pointer (some ⟨b, 0, none⟩))).run Try.prog w = .ok (.bool false) w := by
  simp only [binOp]
  simp [equal_same b w]

theorem eql_other {b b' : Nat} {w : World} {s s' : ByteArray} {l l' : Int} (hne : b ≠ b') (h : w.heap[b]? = some (fragObj s l)) (h' : w.heap[b']? = some (fragObj s' l')) : (binOp .eql 30 (.pointer (some ⟨b, 0, none⟩)) (.pointer (some ⟨b', 0, none⟩))).run Try.prog w = .ok (.bool false) w := by
  obtain ⟨j, hj, hz⟩ := Option.map_eq_some_iff.1 info37
  exact run_eql_ptr_other w under30 hj (by rw [hz]; decide) (fun e => hne (by injection e)) h h'

theorem MapHas.look_some {w : World} {M b : Nat} {l : List (List UInt8 × Nat)} {s : ByteArray} (h : MapHas w M l) (hs : s.size ≤ maxLen) (hl : lastB l s.data.toList = some b) :
    (Instr.lookup 46 (.map (some M)) (.string s) false).run Try.prog w = .ok (.pointer (some ⟨b, 0, none⟩)) w ∧ ∀ q, (Instr.lookup 46 (.map (some M)) (.string s) false).run Try.prog (w.drewN q) = .ok (.pointer (some ⟨b, 0, none⟩)) (w.drewN q) := by
  have hd : ∀ q, MapHas (w.drewN q) M l := fun q => h.later rfl
  have h1 := h.look s hs
  have h2 := fun q => (hd q).look s hs
  rw [hl] at h1
  simp only [hl] at h2
  exact ⟨h1, h2⟩

theorem MapHas.look_none {w : World} {M : Nat} {l : List (List UInt8 × Nat)} {s : ByteArray} (h : MapHas w M l) (hs : s.size ≤ maxLen) (hl : lastB l s.data.toList = none) :
    (Instr.lookup 46 (.map (some M)) (.string s) false).run Try.prog w = .ok (.pointer none) w ∧ ∀ q, (Instr.lookup 46 (.map (some M)) (.string s) false).run Try.prog (w.drewN q) = .ok (.pointer none) (w.drewN q) := by
  have hd : ∀ q, MapHas (w.drewN q) M l := fun q => h.later rfl
  have h1 := h.look s hs
  have h2 := fun q => (hd q).look s hs
  rw [hl] at h1
  simp only [hl] at h2
  exact ⟨h1, h2⟩

end Go.Proofs.Qxb6608853a
