/-
  Seat b6628443a. Writing into the records of one block: what else stays.
-/
import Derived.Test.Qxb6628443aTal
import Derived.Deep.Heap
namespace Go.Proofs.Qxb6628443a
open Go.RowKit

/-- Where n is not 0, the block b may have turned; no other has. -/
structure But (n b : Nat) (w w' : World) : Prop where
  os : w'.os = w.os
  tape : w'.tape = w.tape
  output : w'.output = w.output
  size : w'.heap.size = w.heap.size
  block : ∀ q, (0 < n → q ≠ b) → w'.heap[q]? = w.heap[q]?
theorem But.refl (n b : Nat) (w : World) : But n b w w := ⟨rfl, rfl, rfl, rfl, fun _ _ => rfl⟩
theorem But.drew {n b : Nat} {w w' : World} (h : But n b w w') : But n b w w'.drew := ⟨h.os, h.tape, h.output, h.size, h.block⟩
theorem But.set {n b : Nat} {w w' : World} (h : But n b w w') (hn : 0 < n) (o : Nat) (v : Value) : But n b w (w'.setCell ⟨b, o, none⟩ v) :=
  ⟨h.os, h.tape, h.output, by rw [World.size_setCell]; exact h.size, fun q hq => by rw [Deep.blk_setCell_other _ _ _ _ (hq hn)]; exact h.block q hq⟩
theorem But.below {n b B : Nat} {w w' : World} (h : But n b w w') (hB : 0 < n → B ≤ b) : Below B w w' :=
  ⟨h.os, h.tape, h.output, by rw [h.size]; exact Nat.le_refl _, fun k hk => h.block k (fun hn => by have := hB hn; omega)⟩
theorem But.same {n b lo : Nat} {w w' : World} (h : But n b w w') (hl : 0 < n → b < lo) : SameFrom lo w w' := fun q hq _ => h.block q (fun hn => by have := hl hn; omega)
theorem But.cell {n b : Nat} {w w' : World} (h : But n b w w') {p : Addr} {v : Value} (hc : w.cell? p = some v) (hp : 0 < n → p.block ≠ b) : w'.cell? p = some v := (cell_same (h.block p.block hp)).trans hc
theorem But.recs {n b : Nat} {w w' : World} (h : But n b w w') {a : Option Addr} {sz m : Nat} {F : Nat → Nat → Value} (hr : Recs w a sz m F) (hp : 0 < n → 0 < m → blk a ≠ b) : Recs w' a sz m F :=
  ⟨hr.pl, fun i hi j hj => h.cell (hr.c i hi j hj) (fun hn => hp hn (by omega))⟩
theorem frozen_same {w w' : World} {p : Addr} (h : w'.heap[p.block]? = w.heap[p.block]?) : w'.frozen? p = w.frozen? p := by
  unfold World.frozen?
  rw [h]
theorem But.fam {n b : Nat} {w w' : World} (h : But n b w w') {a : Option Addr} {m : Nat} (hf : Fam w a m) (hp : 0 < n → 0 < m → blk a ≠ b) : Fam w' a m :=
  ⟨fun j hj => by obtain ⟨u, hu⟩ := hf.is j hj; exact ⟨u, h.cell hu (fun hn => hp hn (by omega))⟩, fun j hj => (frozen_same (p := ⟨blk a, ofs a + j, none⟩) (h.block _ (fun hn => hp hn (by omega)))).trans (hf.fr j hj)⟩
theorem Recs.drew {w : World} {a : Option Addr} {sz n : Nat} {F : Nat → Nat → Value} (h : Recs w a sz n F) : Recs w.drew a sz n F := ⟨h.pl, h.c⟩
/-- One cell of a record is stored. -/
theorem Recs.set {w : World} {a : Option Addr} {sz n : Nat} {F F' : Nat → Nat → Value} (h : Recs w a sz n F) {k j : Nat} {v : Value} (hk : k < n) (hj : j < sz) (hv : F' k j = v) (he : ∀ i, i < n → ∀ m, m < sz → ¬ (i = k ∧ m = j) → F' i m = F i m) : Recs (w.setCell ⟨blk a, ofs a + k * sz + j, none⟩ v) a sz n F' := by
  refine ⟨h.pl, fun i hi m hm => ?_⟩
  by_cases e : i = k ∧ m = j
  · obtain ⟨rfl, rfl⟩ := e
    rw [cell_set_same v (h.c i hi m hm), hv]
  · rw [cell_set_ne, h.c i hi m hm, he i hi m hm e]
    intro q
    injection q with _ q
    have q : i * sz + m = k * sz + j := by omega
    rcases Nat.lt_trichotomy i k with g | g | g
    · have := mul_lt (j := m) g hm; omega
    · subst g; exact e ⟨rfl, by omega⟩
    · have := mul_lt (j := j) g hj; omega
theorem Fam.set {w : World} {a : Option Addr} {m : Nat} (h : Fam w a m) (q o : Nat) (v : Value) : Fam (w.setCell ⟨q, o, none⟩ v) a m :=
  ⟨fun j hj => by
    obtain ⟨u, hu⟩ := h.is j hj
    by_cases e : (⟨q, o, none⟩ : Addr) = ⟨blk a, ofs a + j, none⟩
    · rw [e]; exact ⟨v, cell_set_same v hu⟩
    · exact ⟨u, by rw [cell_set_ne _ e]; exact hu⟩, fun j hj => by rw [World.frozen?_setCell]; exact h.fr j hj⟩
end Go.Proofs.Qxb6628443a
