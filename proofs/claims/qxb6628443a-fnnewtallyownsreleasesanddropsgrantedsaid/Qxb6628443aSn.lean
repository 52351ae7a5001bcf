/-
  Seat b6628443a. A snapshot in memory, and its box.
-/
import Derived.Test.Qxb6628443aSnap
import Derived.Test.Qxb6628443aBut
namespace Go.Proofs.Qxb6628443a
open Go.RowKit

/-- The rows of a snapshot, all in blocks from 'lo' up to 'hi'. -/
structure SnapAt (lo hi : Nat) (wr : World) (ra xl : Option Addr) (ln : Nat) (L : Nat → LI) (xr : Option Addr) (rn : Nat) (R : Nat → RI) (xb : Option Addr) (bn : Nat) (B : Nat → BI) (xg : Option Addr) (gn : Nat) (G : Nat → GI) : Prop where
  l : Recs wr xl 6 ln (fun i => (L i).c)
  r : Recs wr xr 3 rn (fun i => (R i).c)
  b : Recs wr xb 3 bn (fun i => (B i).c)
  g : Recs wr xg 7 gn (fun i => (G i).c)
  fr : Fam wr xr (rn * 3)
  fb : Fam wr xb (bn * 3)
  nr : xr.isNone = ra.isNone
  ol : 0 < ln → lo ≤ blk xl ∧ blk xl < hi
  orr : 0 < rn → lo ≤ blk xr ∧ blk xr < hi
  ob : 0 < bn → lo ≤ blk xb ∧ blk xb < hi
  og : 0 < gn → lo ≤ blk xg ∧ blk xg < hi
  lb : 0 < ln → 0 < bn → blk xl < blk xb
  rb : 0 < rn → 0 < bn → blk xr < blk xb
  bg : 0 < bn → 0 < gn → blk xb < blk xg

theorem SnapRet.at {w w' : World} {la : Option Addr} {ln : Nat} {L : Nat → LI} {tok : Int} {ra : Option Addr} {rn : Nat} {R : Nat → RI} {mem : Int} {ba : Option Addr} {bn : Nat} {B : Nat → BI} {ga : Option Addr} {gn : Nat} {G : Nat → GI} {e : Ending} (h : SnapRet w la ln L tok ra rn R mem ba bn B ga gn G e w') :
    ∃ xl xr xb xg, e = .returned (.agg #[.slice xl ln ln, .int .u64 tok, .slice xr rn rn, .int .i64 mem, .slice xb bn bn, .slice xg gn gn]) ∧ Below w.heap.size w w' ∧ SnapAt w.heap.size w'.heap.size w' ra xl ln L xr rn R xb bn B xg gn G := by
  obtain ⟨lv, rv, bv, gv, k1, k2, k3, k4, rfl, hb, q1, q2, q3, q4, a1, a2, a3⟩ := h
  obtain ⟨xl, rfl, r1, _, o1, _, p1⟩ := q1
  obtain ⟨xr, rfl, r2, z2, o2, f2, p2⟩ := q2
  obtain ⟨xb, rfl, r3, _, o3, f3, p3⟩ := q3
  obtain ⟨xg, rfl, r4, _, o4, _, p4⟩ := q4
  exact ⟨xl, xr, xb, xg, rfl, hb, r1, r2, r3, r4, f2, f3, z2, fun h => ⟨by have := (o1 h).1; omega, (o1 h).2⟩, fun h => ⟨by have := (o2 h).1; omega, (o2 h).2⟩, fun h => ⟨by have := (o3 h).1; omega, (o3 h).2⟩, fun h => ⟨by have := (o4 h).1; omega, (o4 h).2⟩,
    fun h h' => a1 _ _ _ _ _ _ rfl rfl h h', fun h h' => a2 _ _ _ _ _ _ rfl rfl h h', fun h h' => a3 _ _ _ _ _ _ rfl rfl h h'⟩

theorem pos_of {n m : Nat} (h : 0 < n * m) : 0 < n := by rcases Nat.eq_zero_or_pos n with e | e; (subst e; simp at h); exact e

section
variable {lo hi : Nat} {wr wr' : World} {ra xl : Option Addr} {ln : Nat} {L : Nat → LI} {xr : Option Addr} {rn : Nat} {R : Nat → RI} {xb : Option Addr} {bn : Nat} {B : Nat → BI} {xg : Option Addr} {gn : Nat} {G : Nat → GI}

theorem SnapAt.grow (h : SnapAt lo hi wr ra xl ln L xr rn R xb bn B xg gn G) (hb : Below hi wr wr') : SnapAt lo hi wr' ra xl ln L xr rn R xb bn B xg gn G :=
  ⟨⟨h.l.pl, fun i hi j hj => cell_below hb (h.l.c i hi j hj) (h.ol (by omega)).2⟩, ⟨h.r.pl, fun i hi j hj => cell_below hb (h.r.c i hi j hj) (h.orr (by omega)).2⟩, ⟨h.b.pl, fun i hi j hj => cell_below hb (h.b.c i hi j hj) (h.ob (by omega)).2⟩, ⟨h.g.pl, fun i hi j hj => cell_below hb (h.g.c i hi j hj) (h.og (by omega)).2⟩,
    h.fr.below hb (fun p => (h.orr (pos_of p)).2), h.fb.below hb (fun p => (h.ob (pos_of p)).2), h.nr, h.ol, h.orr, h.ob, h.og, h.lb, h.rb, h.bg⟩
/-- Its budgets are written. -/
theorem SnapAt.put (h : SnapAt lo hi wr ra xl ln L xr rn R xb bn B xg gn G) (hb : But bn (blk xb) wr wr') {B2 : Nat → BI} (hr : Recs wr' xb 3 bn (fun i => (B2 i).c)) (hf : Fam wr' xb (bn * 3)) : SnapAt lo hi wr' ra xl ln L xr rn R xb bn B2 xg gn G :=
  ⟨hb.recs h.l (fun p q e => by have := h.lb q p; omega), hb.recs h.r (fun p q e => by have := h.rb q p; omega), hr, hb.recs h.g (fun p q e => by have := h.bg p q; omega),
    hb.fam h.fr (fun p q e => by have := h.rb (pos_of q) p; omega), hf, h.nr, h.ol, h.orr, h.ob, h.og, h.lb, h.rb, h.bg⟩
theorem SnapAt.inp (h : SnapAt lo hi wr ra xl ln L xr rn R xb bn B xg gn G) (bl : ln ≤ 4096) (br : rn ≤ 4096) (bb : bn ≤ 4096) (bg : gn ≤ 4096) : Inp wr xl ln L xr rn R xb bn B xg gn G :=
  ⟨h.l, h.r, h.b, h.g, by unfold maxLen; omega, by unfold maxLen; omega, by unfold maxLen; omega, by unfold maxLen; omega⟩
theorem SnapAt.nil (h : SnapAt lo hi wr ra xl ln L xr rn R xb bn B xg gn G) (nr : ra = none → rn = 0) : xr = none → rn = 0 ∧ rn = 0 := fun e => by
  have : ra = none := by
    have := h.nr
    rw [e] at this
    cases ra with
    | none => rfl
    | some _ => cases this
  exact ⟨nr this, nr this⟩
end

/-- A snapshot's box. -/
structure Box (wr : World) (s : Nat) (lv : Value) (tok : Int) (rv : Value) (mem : Int) (bv gv : Value) : Prop where
  c0 : wr.cell? ⟨s, 0, none⟩ = some lv
  c1 : wr.cell? ⟨s, 1, none⟩ = some (.int .u64 tok)
  c2 : wr.cell? ⟨s, 2, none⟩ = some rv
  c3 : wr.cell? ⟨s, 3, none⟩ = some (.int .i64 mem)
  c4 : wr.cell? ⟨s, 4, none⟩ = some bv
  c5 : wr.cell? ⟨s, 5, none⟩ = some gv
theorem Box.new (w : World) (lv : Value) (tok : Int) (rv : Value) (mem : Int) (bv gv : Value) : Box (w.alloc (.cells #[lv, .int .u64 tok, rv, .int .i64 mem, bv, gv] 35)) w.heap.size lv tok rv mem bv gv := by
  constructor <;> simp
theorem Box.grow {wr wr' : World} {s : Nat} {lv : Value} {tok : Int} {rv : Value} {mem : Int} {bv gv : Value} (h : Box wr s lv tok rv mem bv gv) (hb : Below wr.heap.size wr wr') : Box wr' s lv tok rv mem bv gv :=
  ⟨cell_below hb h.c0 (lt_of_cell h.c0), cell_below hb h.c1 (lt_of_cell h.c1), cell_below hb h.c2 (lt_of_cell h.c2), cell_below hb h.c3 (lt_of_cell h.c3), cell_below hb h.c4 (lt_of_cell h.c4), cell_below hb h.c5 (lt_of_cell h.c5)⟩
theorem Box.but {n b : Nat} {wr wr' : World} {s : Nat} {lv : Value} {tok : Int} {rv : Value} {mem : Int} {bv gv : Value} (h : Box wr s lv tok rv mem bv gv) (hb : But n b wr wr') (hs : 0 < n → s ≠ b) : Box wr' s lv tok rv mem bv gv :=
  ⟨hb.cell h.c0 hs, hb.cell h.c1 hs, hb.cell h.c2 hs, hb.cell h.c3 hs, hb.cell h.c4 hs, hb.cell h.c5 hs⟩
end Go.Proofs.Qxb6628443a
