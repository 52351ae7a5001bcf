import Derived.Test.Qxb6628366aW8
namespace Go.Proofs.Qxb6628366a
open Go.RowKit

/-- storage.Versions at a slice's address, each with its row. -/
structure BVers (w : World) (va : Option Addr) (k : Nat) (V : Nat → LVer) (p : Nat → Nat) (n : Int) (G : Nat → Option Addr) : Prop where
  c0 : ∀ i, i < k → w.cell? ⟨blk va, ofs va + i * 4, none⟩ = some (.slice (G i) (V i).rn (V i).rn)
  c1 : ∀ i, i < k → w.cell? ⟨blk va, ofs va + i * 4 + 1, none⟩ = some (.bool (V i).ghost)
  c2 : ∀ i, i < k → w.cell? ⟨blk va, ofs va + i * 4 + 2, none⟩ = some (.pointer (wptr p n (V i).writer))
  c3 : ∀ i, i < k → w.cell? ⟨blk va, ofs va + i * 4 + 3, none⟩ = some (.int .u64 (V i).com)
  row : ∀ i, i < k → RowIn w (G i) (V i).rn (V i).row
  nil : ∀ i, i < k → (G i).isNone = (V i).ra.isNone
theorem BVers.lt {w : World} {va : Option Addr} {k : Nat} {V : Nat → LVer} {p : Nat → Nat} {n : Int} {G : Nat → Option Addr} (h : BVers w va k V p n G) (i : Nat) (hi : i < k) : blk va < w.heap.size := by have := lt_of_cell (h.c0 i hi); exact this
theorem BVers.below {w w' : World} {va : Option Addr} {k : Nat} {V : Nat → LVer} {p : Nat → Nat} {n : Int} {G : Nat → Option Addr} (h : BVers w va k V p n G) (hb : Below w.heap.size w w') : BVers w' va k V p n G :=
  ⟨fun i hi => cell_below hb (h.c0 i hi) (h.lt i hi), fun i hi => cell_below hb (h.c1 i hi) (h.lt i hi), fun i hi => cell_below hb (h.c2 i hi) (h.lt i hi), fun i hi => cell_below hb (h.c3 i hi) (h.lt i hi), fun i hi => (h.row i hi).below hb, h.nil⟩

structure Vers2 (W wr : World) (va : Option Addr) (on : Nat) (V : Nat → LVer) (p : Nat → Nat) (n : Int) (G : Nat → Option Addr) (k : Nat) : Prop where
  bel : Below W.heap.size W wr
  lt : W.heap.size < wr.heap.size
  fam : Fam wr va (on * 4)
  bv : BVers wr va k V p n G
  up : ∀ i, i < k → 0 < (V i).rn → W.heap.size < blk (G i)

theorem Vers2.start (W : World) (va : Option Addr) (on : Nat) (V : Nat → LVer) (p : Nat → Nat) (n : Int) (z : Array Value) (t : TypeId) (h : va = some ⟨W.heap.size, 0, none⟩) : Vers2 W (W.alloc (.cells (madeCells z (on * 4)) t)) va on V p n (fun _ => none) 0 :=
  ⟨below1 _ _, by simp, Fam.made W va _ _ _ h, ⟨fun i hi => by omega, fun i hi => by omega, fun i hi => by omega, fun i hi => by omega, fun i hi => by omega, fun i hi => by omega⟩, fun i hi => by omega⟩

theorem Vers2.step {W wr w1 : World} {va : Option Addr} {on : Nat} {V : Nat → LVer} {p : Nat → Nat} {n : Int} {G : Nat → Option Addr} {k : Nat} (h : Vers2 W wr va on V p n G k) (hk : k < on) (hv : va = some ⟨W.heap.size, 0, none⟩)
    {ga : Option Addr} (hb : Below wr.heap.size wr w1) (hrow : RowIn w1 ga (V k).rn (V k).row) (hnil : ga.isNone = (V k).ra.isNone) (hnew : 0 < (V k).rn → wr.heap.size ≤ blk ga) :
    Vers2 W ((((w1.setCell ⟨blk va, ofs va + k * 4, none⟩ (.slice ga (V k).rn (V k).rn)).setCell ⟨blk va, ofs va + k * 4 + 1, none⟩ (.bool (V k).ghost)).setCell ⟨blk va, ofs va + k * 4 + 2, none⟩ (.pointer (wptr p n (V k).writer))).setCell ⟨blk va, ofs va + k * 4 + 3, none⟩ (.int .u64 (V k).com))
      va on V p n (fun i => if i = k then ga else G i) (k + 1) := by
  have e1 : blk va = W.heap.size := by rw [hv]; rfl
  have hlt := h.lt
  have hsz := hb.size
  have f0 := h.fam.below hb
  have f1 := f0.set (k * 4) (.slice ga (V k).rn (V k).rn)
  have f2 := f1.set (k * 4 + 1) (.bool (V k).ghost)
  have f3 := f2.set (k * 4 + 2) (.pointer (wptr p n (V k).writer))
  have f4 := f3.set (k * 4 + 3) (.int .u64 (V k).com)
  have g0 := f0.got (k * 4) (by omega) (.slice ga (V k).rn (V k).rn)
  have g1 := f1.got (k * 4 + 1) (by omega) (.bool (V k).ghost)
  have g2 := f2.got (k * 4 + 2) (by omega) (.pointer (wptr p n (V k).writer))
  have g3 := f3.got (k * 4 + 3) (by omega) (.int .u64 (V k).com)
  simp only [← Nat.add_assoc] at f1 f2 f3 f4 g0 g1 g2 g3
  have bv := h.bv.below hb
  have hbel : Below W.heap.size W w1 := h.bel.trans (hb.mono (by omega))
  have ne : ∀ i, i < k + 1 → 0 < (V i).rn → blk (if i = k then ga else G i) ≠ blk va := fun i hi hp => by
    by_cases e : i = k
    · subst e; rw [if_pos rfl]; have := hnew hp; omega
    · rw [if_neg e]; have := h.up i (by omega) hp; omega
  refine ⟨below_set (below_set (below_set (below_set hbel _ _ (by omega) _) _ _ (by omega) _) _ _ (by omega) _) _ _ (by omega) _, by simp only [World.setCell, Array.size_modify]; omega, f4, ⟨fun i hi => ?_, fun i hi => ?_, fun i hi => ?_, fun i hi => ?_, fun i hi => ?_, fun i hi => ?_⟩, fun i hi hp => ?_⟩
  · by_cases e : i = k
    · subst e; rw [if_pos rfl, cell_set_ne _ (by intro e; injection e; omega), cell_set_ne _ (by intro e; injection e; omega), cell_set_ne _ (by intro e; injection e; omega)]; exact g0
    · rw [if_neg e, cell_set_ne _ (by intro e; injection e; omega), cell_set_ne _ (by intro e; injection e; omega), cell_set_ne _ (by intro e; injection e; omega), cell_set_ne _ (by intro e; injection e; omega)]; exact bv.c0 i (by omega)
  · by_cases e : i = k
    · subst e; rw [cell_set_ne _ (by intro e; injection e; omega), cell_set_ne _ (by intro e; injection e; omega)]; exact g1
    · rw [cell_set_ne _ (by intro e; injection e; omega), cell_set_ne _ (by intro e; injection e; omega), cell_set_ne _ (by intro e; injection e; omega), cell_set_ne _ (by intro e; injection e; omega)]; exact bv.c1 i (by omega)
  · by_cases e : i = k
    · subst e; rw [cell_set_ne _ (by intro e; injection e; omega)]; exact g2
    · rw [cell_set_ne _ (by intro e; injection e; omega), cell_set_ne _ (by intro e; injection e; omega), cell_set_ne _ (by intro e; injection e; omega), cell_set_ne _ (by intro e; injection e; omega)]; exact bv.c2 i (by omega)
  · by_cases e : i = k
    · subst e; exact g3
    · rw [cell_set_ne _ (by intro e; injection e; omega), cell_set_ne _ (by intro e; injection e; omega), cell_set_ne _ (by intro e; injection e; omega), cell_set_ne _ (by intro e; injection e; omega)]; exact bv.c3 i (by omega)
  · refine RowIn.setOther (RowIn.setOther (RowIn.setOther (RowIn.setOther ?_ (ne i hi) _ _) (ne i hi) _ _) (ne i hi) _ _) (ne i hi) _ _
    by_cases e : i = k
    · subst e; rw [if_pos rfl]; exact hrow
    · rw [if_neg e]; exact bv.row i (by omega)
  · by_cases e : i = k
    · subst e; rw [if_pos rfl]; exact hnil
    · rw [if_neg e]; exact h.bv.nil i (by omega)
  · by_cases e : i = k
    · subst e; rw [if_pos rfl]; have := hnew hp; omega
    · rw [if_neg e]; exact h.up i (by omega) hp

/-- An entry in memory, with the owners that its versions point to. -/
structure EntryIn (w : World) (eb : Nat) (h : LVer) (on : Nat) (V : Nat → LVer) (p : Nat → Nat) (n : Int) (ga : Option Addr) (va : Option Addr) (G : Nat → Option Addr) : Prop where
  c0 : w.cell? ⟨eb, 0, none⟩ = some (.slice ga h.rn h.rn)
  c1 : w.cell? ⟨eb, 1, none⟩ = some (.bool h.ghost)
  c2 : w.cell? ⟨eb, 2, none⟩ = some (.pointer (wptr p n h.writer))
  c3 : w.cell? ⟨eb, 3, none⟩ = some (.int .u64 h.com)
  c4 : w.cell? ⟨eb, 4, none⟩ = some (.slice va on on)
  row : RowIn w ga h.rn h.row
  nil : ga.isNone = h.ra.isNone
  pl : Pl va on
  bv : BVers w va on V p n G
theorem EntryIn.lt {w : World} {eb : Nat} {h : LVer} {on : Nat} {V : Nat → LVer} {p : Nat → Nat} {n : Int} {ga va : Option Addr} {G : Nat → Option Addr} (e : EntryIn w eb h on V p n ga va G) : eb < w.heap.size := lt_of_cell e.c0
theorem EntryIn.below {w w' : World} {eb : Nat} {h : LVer} {on : Nat} {V : Nat → LVer} {p : Nat → Nat} {n : Int} {ga va : Option Addr} {G : Nat → Option Addr} (e : EntryIn w eb h on V p n ga va G) (hb : Below w.heap.size w w') : EntryIn w' eb h on V p n ga va G :=
  ⟨cell_below hb e.c0 e.lt, cell_below hb e.c1 e.lt, cell_below hb e.c2 e.lt, cell_below hb e.c3 e.lt, cell_below hb e.c4 e.lt, e.row.below hb, e.nil, e.pl, e.bv.below hb⟩

/-- What 'seenBuild' hands back. -/
def BuildRet (w : World) (h : LVer) (on : Nat) (V : Nat → LVer) (sn : Nat) (S : Nat → Bool) (e : Ending) (w' : World) : Prop :=
  ∃ eb oa p ga va G, e = .returned (.tuple #[.pointer (some ⟨eb, 0, none⟩), .slice oa sn sn]) ∧ Below w.heap.size w w' ∧ OwnersIn w' oa sn p S ∧ EntryIn w' eb h on V p sn ga va G
end Go.Proofs.Qxb6628366a
