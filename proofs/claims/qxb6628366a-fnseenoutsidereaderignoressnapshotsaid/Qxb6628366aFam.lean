import Derived.Test.Qxb6628366aMem
namespace Go.Proofs.Qxb6628366a
open Go.RowKit

/-- A row of m cells of the call's own at a slice's address, none frozen. -/
structure Fam (w : World) (ga : Option Addr) (m : Nat) : Prop where
  is : ∀ j, j < m → ∃ v, w.cell? ⟨blk ga, ofs ga + j, none⟩ = some v
  fr : ∀ j, j < m → w.frozen? ⟨blk ga, ofs ga + j, none⟩ = false

theorem cell_set_same {w : World} {a : Addr} {u : Value} (v : Value) (h : w.cell? a = some u) : (w.setCell a v).cell? a = some v := World.cell?_setCell_same w a v h
theorem cell_set_ne {w : World} {a b : Addr} (v : Value) (h : a ≠ b) : (w.setCell a v).cell? b = w.cell? b := World.cell?_setCell_other w a b v h
theorem at_ne {q b c d : Nat} (h : c ≠ d) : (⟨q, b + c, none⟩ : Addr) ≠ ⟨q, b + d, none⟩ := fun e => by injection e; omega
theorem blk_ne {q r b c : Nat} (h : q ≠ r) : (⟨q, b, none⟩ : Addr) ≠ ⟨r, c, none⟩ := fun e => by injection e; omega

theorem below_set {B : Nat} {a w : World} (h : Below B a w) (q o : Nat) (hq : B ≤ q) (u : Value) : Below B a (w.setCell ⟨q, o, none⟩ u) := h.setCell (p := ⟨q, o, none⟩) hq u

/-- One store into such a row. -/
theorem Fam.set {w : World} {ga : Option Addr} {m : Nat} (h : Fam w ga m) (p : Nat) (v : Value) : Fam (w.setCell ⟨blk ga, ofs ga + p, none⟩ v) ga m := by
  refine ⟨fun j hj => ?_, fun j hj => by rw [World.frozen?_setCell]; exact h.fr j hj⟩
  obtain ⟨u, hu⟩ := h.is j hj
  by_cases e : p = j
  · subst e; exact ⟨v, cell_set_same v hu⟩
  · exact ⟨u, by rw [cell_set_ne v (at_ne e)]; exact hu⟩
theorem Fam.got {w : World} {ga : Option Addr} {m : Nat} (h : Fam w ga m) (p : Nat) (hp : p < m) (v : Value) : (w.setCell ⟨blk ga, ofs ga + p, none⟩ v).cell? ⟨blk ga, ofs ga + p, none⟩ = some v := by
  obtain ⟨u, hu⟩ := h.is p hp
  exact cell_set_same v hu
theorem Fam.drew {w : World} {ga : Option Addr} {m : Nat} (h : Fam w ga m) : Fam w.drew ga m := ⟨h.is, h.fr⟩
theorem Fam.below {w w' : World} {ga : Option Addr} {m : Nat} (h : Fam w ga m) (hb : Below w.heap.size w w') : Fam w' ga m := by
  have hl : ∀ j, j < m → blk ga < w.heap.size := fun j hj => by obtain ⟨u, hu⟩ := h.is j hj; have := lt_of_cell hu; exact this
  exact ⟨fun j hj => by obtain ⟨u, hu⟩ := h.is j hj; exact ⟨u, cell_below hb hu (hl j hj)⟩, fun j hj => (hb.frozen (p := ⟨blk ga, ofs ga + j, none⟩) (hl j hj)).trans (h.fr j hj)⟩

/-- A row just made. -/
theorem Fam.made (w : World) (ga : Option Addr) (m : Nat) (z : Array Value) (t : TypeId) (hga : ga = some ⟨w.heap.size, 0, none⟩) : Fam (w.alloc (.cells (madeCells z m) t)) ga m := by
  subst hga
  have e1 : blk (some ⟨w.heap.size, 0, none⟩) = w.heap.size := rfl
  have e2 : ofs (some ⟨w.heap.size, 0, none⟩) = 0 := rfl
  refine ⟨fun j hj => ?_, fun j _ => ?_⟩
  · rw [e1, e2, Nat.zero_add, World.cell?_alloc_new]
    exact ⟨(madeCells z m)[j]'(by rw [size_madeCells]; exact hj), Array.getElem?_eq_getElem _⟩
  · rw [e1, e2, World.frozen?_alloc_new]
end Go.Proofs.Qxb6628366a
