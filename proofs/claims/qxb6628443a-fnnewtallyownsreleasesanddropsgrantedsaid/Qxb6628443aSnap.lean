import Derived.Test.Qxb6628443aFam
import Derived.StillTailTactics
import Derived.Deep.CutRange
namespace Go.Proofs.Qxb6628443a
open Go.RowKit

theorem UpTo.drew {w : World} {ga : Option Addr} {sz : Nat} {F : Nat → Nat → Value} {k : Nat} (h : UpTo w ga sz F k) : UpTo w.drew ga sz F k := fun i hi j hj => h i hi j hj
theorem setRow3 (w : World) (b o : Nat) (v0 v1 v2 : Value) : setRow w b o [v0, v1, v2] = (((w.setCell ⟨b, o, none⟩ v0).setCell ⟨b, o + 1, none⟩ v1).setCell ⟨b, o + 2, none⟩ v2) := rfl
theorem setRow6 (w : World) (b o : Nat) (v0 v1 v2 v3 v4 v5 : Value) : setRow w b o [v0, v1, v2, v3, v4, v5] = ((((((w.setCell ⟨b, o, none⟩ v0).setCell ⟨b, o + 1, none⟩ v1).setCell ⟨b, o + 2, none⟩ v2).setCell ⟨b, o + 3, none⟩ v3).setCell ⟨b, o + 4, none⟩ v4).setCell ⟨b, o + 5, none⟩ v5) := rfl
theorem setRow7 (w : World) (b o : Nat) (v0 v1 v2 v3 v4 v5 v6 : Value) : setRow w b o [v0, v1, v2, v3, v4, v5, v6] = (((((((w.setCell ⟨b, o, none⟩ v0).setCell ⟨b, o + 1, none⟩ v1).setCell ⟨b, o + 2, none⟩ v2).setCell ⟨b, o + 3, none⟩ v3).setCell ⟨b, o + 4, none⟩ v4).setCell ⟨b, o + 5, none⟩ v5).setCell ⟨b, o + 6, none⟩ v6) := rfl
theorem infoM47 : (Try.prog.info? 47).map (fun i => (i.zero, i.size, i.bytes)) = some (some (.agg #[.string ⟨#[]⟩, .string ⟨#[]⟩, .int .u64 0, .int .i64 0, .int .i64 0, .string ⟨#[]⟩]), 6, 72) := by kernel_rfl
theorem make47 (n : Nat) (hn : n ≤ 1048576) (w : World) :
    (Instr.makeSlice 29 (.int .i64 (n : Int)) (.int .i64 (n : Int))).run Try.prog w = .ok (.slice (some ⟨w.heap.size, 0, none⟩) n n) (w.alloc (.cells (madeCells #[.string ⟨#[]⟩, .string ⟨#[]⟩, .int .u64 0, .int .i64 0, .int .i64 0, .string ⟨#[]⟩] (n * 6)) 47)) := by
  obtain ⟨i, hi, h1, h2, h3⟩ := info_parts infoM47
  have := run_make (P := Try.prog) w 29 47 i _ Try.underlying29 hi h1 .i64 .i64 n n (by omega) (by omega) (by rw [h3]; omega) (by omega)
  rw [this, h2]
  rfl

theorem infoM69 : (Try.prog.info? 69).map (fun i => (i.zero, i.size, i.bytes)) = some (some (.agg #[.int .u64 0, .string ⟨#[]⟩, .int .i64 0]), 3, 32) := by kernel_rfl
theorem make69 (n : Nat) (hn : n ≤ 1048576) (w : World) :
    (Instr.makeSlice 30 (.int .i64 (n : Int)) (.int .i64 (n : Int))).run Try.prog w = .ok (.slice (some ⟨w.heap.size, 0, none⟩) n n) (w.alloc (.cells (madeCells #[.int .u64 0, .string ⟨#[]⟩, .int .i64 0] (n * 3)) 69)) := by
  obtain ⟨i, hi, h1, h2, h3⟩ := info_parts infoM69
  have := run_make (P := Try.prog) w 30 69 i _ Try.underlying30 hi h1 .i64 .i64 n n (by omega) (by omega) (by rw [h3]; omega) (by omega)
  rw [this, h2]
  rfl

theorem infoM56 : (Try.prog.info? 56).map (fun i => (i.zero, i.size, i.bytes)) = some (some (.agg #[.string ⟨#[]⟩, .int .u64 0, .int .u64 0]), 3, 32) := by kernel_rfl
theorem make56 (n : Nat) (hn : n ≤ 1048576) (w : World) :
    (Instr.makeSlice 32 (.int .i64 (n : Int)) (.int .i64 (n : Int))).run Try.prog w = .ok (.slice (some ⟨w.heap.size, 0, none⟩) n n) (w.alloc (.cells (madeCells #[.string ⟨#[]⟩, .int .u64 0, .int .u64 0] (n * 3)) 56)) := by
  obtain ⟨i, hi, h1, h2, h3⟩ := info_parts infoM56
  have := run_make (P := Try.prog) w 32 56 i _ Try.underlying32 hi h1 .i64 .i64 n n (by omega) (by omega) (by rw [h3]; omega) (by omega)
  rw [this, h2]
  rfl

theorem infoM63 : (Try.prog.info? 63).map (fun i => (i.zero, i.size, i.bytes)) = some (some (.agg #[.string ⟨#[]⟩, .string ⟨#[]⟩, .int .u64 0, .int .u64 0, .int .i64 0, .int .i64 0, .string ⟨#[]⟩]), 7, 80) := by kernel_rfl
theorem make63 (n : Nat) (hn : n ≤ 1048576) (w : World) :
    (Instr.makeSlice 33 (.int .i64 (n : Int)) (.int .i64 (n : Int))).run Try.prog w = .ok (.slice (some ⟨w.heap.size, 0, none⟩) n n) (w.alloc (.cells (madeCells #[.string ⟨#[]⟩, .string ⟨#[]⟩, .int .u64 0, .int .u64 0, .int .i64 0, .int .i64 0, .string ⟨#[]⟩] (n * 7)) 63)) := by
  obtain ⟨i, hi, h1, h2, h3⟩ := info_parts infoM63
  have := run_make (P := Try.prog) w 33 63 i _ Try.underlying33 hi h1 .i64 .i64 n n (by omega) (by omega) (by rw [h3]; omega) (by omega)
  rw [this, h2]
  rfl

theorem SAt.put0 {w wr : World} {l r b g : Value} {tok mem : Int} (h : SAt w wr l tok r mem b g) (ob : Obj) (v : Value) : SAt w ((wr.setCell ⟨w.heap.size + 1, 0, none⟩ v).alloc ob) v tok r mem b g := by
  have h1 := below1 (wr.setCell ⟨w.heap.size + 1, 0, none⟩ v) ob
  have hu := h.up
  exact ⟨(below_set h.bel _ _ (by omega) _).trans (h1.mono (by rw [World.size_setCell]; omega)), cell_below h1 (cell_set_same _ h.c0) (by show _ + 1 < _; rw [World.size_setCell]; omega), cell_below h1 ((cell_set_ne _ (of_ne (by omega))).trans h.c1) (by show _ + 1 < _; rw [World.size_setCell]; omega), cell_below h1 ((cell_set_ne _ (of_ne (by omega))).trans h.c2) (by show _ + 1 < _; rw [World.size_setCell]; omega), cell_below h1 ((cell_set_ne _ (of_ne (by omega))).trans h.c3) (by show _ + 1 < _; rw [World.size_setCell]; omega), cell_below h1 ((cell_set_ne _ (of_ne (by omega))).trans h.c4) (by show _ + 1 < _; rw [World.size_setCell]; omega), cell_below h1 ((cell_set_ne _ (of_ne (by omega))).trans h.c5) (by show _ + 1 < _; rw [World.size_setCell]; omega),
    fun j => (h1.frozen (p := ⟨w.heap.size + 1, j, none⟩) (by show _ + 1 < _; rw [World.size_setCell]; omega)).trans (by rw [World.frozen?_setCell]; exact h.fs j),
    fun j hj => by obtain ⟨u, hu'⟩ := h.z j hj; exact ⟨u, cell_below h1 ((cell_set_ne _ (bk_ne (by omega))).trans hu') (by show w.heap.size < _; rw [World.size_setCell]; omega)⟩,
    fun j => (h1.frozen (p := ⟨w.heap.size, j, none⟩) (by show w.heap.size < _; rw [World.size_setCell]; omega)).trans (by rw [World.frozen?_setCell]; exact h.fz j), by have := h1.size; rw [World.size_setCell] at this; omega⟩

theorem SAt.put2 {w wr : World} {l r b g : Value} {tok mem : Int} (h : SAt w wr l tok r mem b g) (ob : Obj) (v : Value) : SAt w ((wr.setCell ⟨w.heap.size + 1, 2, none⟩ v).alloc ob) l tok v mem b g := by
  have h1 := below1 (wr.setCell ⟨w.heap.size + 1, 2, none⟩ v) ob
  have hu := h.up
  exact ⟨(below_set h.bel _ _ (by omega) _).trans (h1.mono (by rw [World.size_setCell]; omega)), cell_below h1 ((cell_set_ne _ (of_ne (by omega))).trans h.c0) (by show _ + 1 < _; rw [World.size_setCell]; omega), cell_below h1 ((cell_set_ne _ (of_ne (by omega))).trans h.c1) (by show _ + 1 < _; rw [World.size_setCell]; omega), cell_below h1 (cell_set_same _ h.c2) (by show _ + 1 < _; rw [World.size_setCell]; omega), cell_below h1 ((cell_set_ne _ (of_ne (by omega))).trans h.c3) (by show _ + 1 < _; rw [World.size_setCell]; omega), cell_below h1 ((cell_set_ne _ (of_ne (by omega))).trans h.c4) (by show _ + 1 < _; rw [World.size_setCell]; omega), cell_below h1 ((cell_set_ne _ (of_ne (by omega))).trans h.c5) (by show _ + 1 < _; rw [World.size_setCell]; omega),
    fun j => (h1.frozen (p := ⟨w.heap.size + 1, j, none⟩) (by show _ + 1 < _; rw [World.size_setCell]; omega)).trans (by rw [World.frozen?_setCell]; exact h.fs j),
    fun j hj => by obtain ⟨u, hu'⟩ := h.z j hj; exact ⟨u, cell_below h1 ((cell_set_ne _ (bk_ne (by omega))).trans hu') (by show w.heap.size < _; rw [World.size_setCell]; omega)⟩,
    fun j => (h1.frozen (p := ⟨w.heap.size, j, none⟩) (by show w.heap.size < _; rw [World.size_setCell]; omega)).trans (by rw [World.frozen?_setCell]; exact h.fz j), by have := h1.size; rw [World.size_setCell] at this; omega⟩

theorem SAt.put4 {w wr : World} {l r b g : Value} {tok mem : Int} (h : SAt w wr l tok r mem b g) (ob : Obj) (v : Value) : SAt w ((wr.setCell ⟨w.heap.size + 1, 4, none⟩ v).alloc ob) l tok r mem v g := by
  have h1 := below1 (wr.setCell ⟨w.heap.size + 1, 4, none⟩ v) ob
  have hu := h.up
  exact ⟨(below_set h.bel _ _ (by omega) _).trans (h1.mono (by rw [World.size_setCell]; omega)), cell_below h1 ((cell_set_ne _ (of_ne (by omega))).trans h.c0) (by show _ + 1 < _; rw [World.size_setCell]; omega), cell_below h1 ((cell_set_ne _ (of_ne (by omega))).trans h.c1) (by show _ + 1 < _; rw [World.size_setCell]; omega), cell_below h1 ((cell_set_ne _ (of_ne (by omega))).trans h.c2) (by show _ + 1 < _; rw [World.size_setCell]; omega), cell_below h1 ((cell_set_ne _ (of_ne (by omega))).trans h.c3) (by show _ + 1 < _; rw [World.size_setCell]; omega), cell_below h1 (cell_set_same _ h.c4) (by show _ + 1 < _; rw [World.size_setCell]; omega), cell_below h1 ((cell_set_ne _ (of_ne (by omega))).trans h.c5) (by show _ + 1 < _; rw [World.size_setCell]; omega),
    fun j => (h1.frozen (p := ⟨w.heap.size + 1, j, none⟩) (by show _ + 1 < _; rw [World.size_setCell]; omega)).trans (by rw [World.frozen?_setCell]; exact h.fs j),
    fun j hj => by obtain ⟨u, hu'⟩ := h.z j hj; exact ⟨u, cell_below h1 ((cell_set_ne _ (bk_ne (by omega))).trans hu') (by show w.heap.size < _; rw [World.size_setCell]; omega)⟩,
    fun j => (h1.frozen (p := ⟨w.heap.size, j, none⟩) (by show w.heap.size < _; rw [World.size_setCell]; omega)).trans (by rw [World.frozen?_setCell]; exact h.fz j), by have := h1.size; rw [World.size_setCell] at this; omega⟩

theorem SAt.put5 {w wr : World} {l r b g : Value} {tok mem : Int} (h : SAt w wr l tok r mem b g) (ob : Obj) (v : Value) : SAt w ((wr.setCell ⟨w.heap.size + 1, 5, none⟩ v).alloc ob) l tok r mem b v := by
  have h1 := below1 (wr.setCell ⟨w.heap.size + 1, 5, none⟩ v) ob
  have hu := h.up
  exact ⟨(below_set h.bel _ _ (by omega) _).trans (h1.mono (by rw [World.size_setCell]; omega)), cell_below h1 ((cell_set_ne _ (of_ne (by omega))).trans h.c0) (by show _ + 1 < _; rw [World.size_setCell]; omega), cell_below h1 ((cell_set_ne _ (of_ne (by omega))).trans h.c1) (by show _ + 1 < _; rw [World.size_setCell]; omega), cell_below h1 ((cell_set_ne _ (of_ne (by omega))).trans h.c2) (by show _ + 1 < _; rw [World.size_setCell]; omega), cell_below h1 ((cell_set_ne _ (of_ne (by omega))).trans h.c3) (by show _ + 1 < _; rw [World.size_setCell]; omega), cell_below h1 ((cell_set_ne _ (of_ne (by omega))).trans h.c4) (by show _ + 1 < _; rw [World.size_setCell]; omega), cell_below h1 (cell_set_same _ h.c5) (by show _ + 1 < _; rw [World.size_setCell]; omega),
    fun j => (h1.frozen (p := ⟨w.heap.size + 1, j, none⟩) (by show _ + 1 < _; rw [World.size_setCell]; omega)).trans (by rw [World.frozen?_setCell]; exact h.fs j),
    fun j hj => by obtain ⟨u, hu'⟩ := h.z j hj; exact ⟨u, cell_below h1 ((cell_set_ne _ (bk_ne (by omega))).trans hu') (by show w.heap.size < _; rw [World.size_setCell]; omega)⟩,
    fun j => (h1.frozen (p := ⟨w.heap.size, j, none⟩) (by show w.heap.size < _; rw [World.size_setCell]; omega)).trans (by rw [World.frozen?_setCell]; exact h.fz j), by have := h1.size; rw [World.size_setCell] at this; omega⟩

theorem RowOK.new {w wr : World} {a qa : Option Addr} {sz n B : Nat} {F : Nat → Nat → Value} (hq : qa = some ⟨B, 0, none⟩) (hB : w.heap.size + 2 ≤ B) (hlt : B < wr.heap.size) (hX : Fam wr qa (n * sz)) (hU : UpTo wr qa sz F n) (hz : a.isNone = false) : RowOK w wr a sz n F B (.slice qa n n) := by
  have hb : blk qa = B := by rw [hq]; rfl
  exact ⟨qa, rfl, ⟨fun _ => by rw [hq]; rfl, hU⟩, by rw [hz, hq]; rfl, fun _ => ⟨by omega, by omega⟩, hX, hB⟩
theorem RowOK.none {w wr : World} {a : Option Addr} {sz n : Nat} {F : Nat → Nat → Value} (h0 : n = 0) (hz : a.isNone = true) : RowOK w wr a sz n F (w.heap.size + 2) (.slice Option.none 0 0) := by
  subst h0
  exact ⟨Option.none, rfl, ⟨fun h => by omega, fun i h => by omega⟩, hz.symm, fun h => by omega, ⟨fun j h => by omega, fun j h => by omega⟩, Nat.le_refl _⟩
theorem RowOK.lt {w wr : World} {a ga : Option Addr} {sz n m c : Nat} {F : Nat → Nat → Value} {lo : Nat} {v : Value} (h : RowOK w wr a sz n F lo v) (hv : v = .slice ga m c) (hn : 0 < n) : blk ga < wr.heap.size := by
  obtain ⟨g, rfl, _, _, hl, _, _⟩ := h
  injection hv with h1
  subst h1
  exact (hl hn).2

/-- The one slice's row lies ahead of the other's. -/
def Apart (v v' : Value) (n n' : Nat) : Prop := ∀ a m c a' m' c', v = .slice a m c → v' = .slice a' m' c' → 0 < n → 0 < n' → blk a < blk a'
theorem Apart.nil {v v' : Value} {n n' : Nat} (h : n' = 0) : Apart v v' n n' := fun _ _ _ _ _ _ _ _ _ h' => absurd h' (by omega)
theorem Apart.new {w w0 : World} {a qa : Option Addr} {sz n m c n' : Nat} {F : Nat → Nat → Value} {lo : Nat} {v : Value} (h : RowOK w w0 a sz n F lo v) (hq : qa = some ⟨w0.heap.size, 0, Option.none⟩) : Apart v (.slice qa m c) n n' := fun _ _ _ _ _ _ h1 h2 h3 _ => by
  have := h.lt h1 h3
  injection h2 with h2
  rw [← h2, hq]
  exact this

/-- What 'zzSnap' hands back. -/
def SnapRet (w : World) (la : Option Addr) (ln : Nat) (L : Nat → LI) (tok : Int) (ra : Option Addr) (rn : Nat) (R : Nat → RI) (mem : Int) (ba : Option Addr) (bn : Nat) (B : Nat → BI) (ga : Option Addr) (gn : Nat) (G : Nat → GI) (e : Ending) (w' : World) : Prop :=
  ∃ lv rv bv gv, ∃ l1 l2 l3 l4, e = .returned (.agg #[lv, .int .u64 tok, rv, .int .i64 mem, bv, gv]) ∧ Below w.heap.size w w' ∧ RowOK w w' la 6 ln (fun i => (L i).c) l1 lv ∧ RowOK w w' ra 3 rn (fun i => (R i).c) l2 rv ∧ RowOK w w' ba 3 bn (fun i => (B i).c) l3 bv ∧ RowOK w w' ga 7 gn (fun i => (G i).c) l4 gv ∧
    Apart lv bv ln bn ∧ Apart rv bv rn bn ∧ Apart bv gv bn gn

theorem RowOK.setLow {w wr : World} {a : Option Addr} {sz n : Nat} {F : Nat → Nat → Value} {lo : Nat} {v : Value} (h : RowOK w wr a sz n F lo v) {b : Nat} (hb : b < w.heap.size + 2) (q : Nat) (u : Value) : RowOK w (wr.setCell ⟨b, q, Option.none⟩ u) a sz n F lo v := by
  obtain ⟨ga, rfl, hr, hn, hl, hf, hlo⟩ := h
  have pos : 0 < n * sz → 0 < n := fun h => by rcases Nat.eq_zero_or_pos n with e | e; (subst e; simp at h); exact e
  refine ⟨ga, rfl, ⟨hr.pl, fun i hi j hj => ?_⟩, hn, fun h => ⟨(hl h).1, by rw [World.size_setCell]; exact (hl h).2⟩, ⟨fun j hj => ?_, fun j hj => by rw [World.frozen?_setCell]; exact hf.fr j hj⟩, hlo⟩
  · have := hl (by omega)
    rw [cell_set_ne _ (bk_ne (by omega))]
    exact hr.c i hi j hj
  · have := hl (pos (by omega))
    obtain ⟨v, hv⟩ := hf.is j hj
    exact ⟨v, by rw [cell_set_ne _ (bk_ne (by omega))]; exact hv⟩
theorem RowOK.zero {w wr : World} {a : Option Addr} {sz n : Nat} {F : Nat → Nat → Value} {lo : Nat} {v : Value} (h : RowOK w wr a sz n F lo v) (v0 v1 v2 v3 v4 v5 : Value) : RowOK w ((((((wr.setCell ⟨w.heap.size, 0, Option.none⟩ v0).setCell ⟨w.heap.size, 1, Option.none⟩ v1).setCell ⟨w.heap.size, 2, Option.none⟩ v2).setCell ⟨w.heap.size, 3, Option.none⟩ v3).setCell ⟨w.heap.size, 4, Option.none⟩ v4).setCell ⟨w.heap.size, 5, Option.none⟩ v5) a sz n F lo v := by
  have hb : w.heap.size < w.heap.size + 2 := by omega
  exact (((((h.setLow hb _ _).setLow hb _ _).setLow hb _ _).setLow hb _ _).setLow hb _ _).setLow hb _ _
theorem below_zero {w wr : World} (h : Below w.heap.size w wr) (v0 v1 v2 v3 v4 v5 : Value) : Below w.heap.size w ((((((wr.setCell ⟨w.heap.size, 0, none⟩ v0).setCell ⟨w.heap.size, 1, none⟩ v1).setCell ⟨w.heap.size, 2, none⟩ v2).setCell ⟨w.heap.size, 3, none⟩ v3).setCell ⟨w.heap.size, 4, none⟩ v4).setCell ⟨w.heap.size, 5, none⟩ v5) := by
  have hb := Nat.le_refl w.heap.size
  exact below_set (below_set (below_set (below_set (below_set (below_set h _ _ hb _) _ _ hb _) _ _ hb _) _ _ hb _) _ _ hb _) _ _ hb _
def tl : Nat → Option Code → Option Code
  | 0, o => o
  | n + 1, some (.seq _ b) => tl n (some b)
  | _, o => o
theorem wp_tail {o : Option Code} {c : Code} {P : Program} {Q : Exit → Act → World → Prop} {a : Act} {w : World} (h : o = some c) (hw : c.wp P Q a w) : ∀ c', o = some c' → c'.wp P Q a w := by
  intro c' h'
  rw [h] at h'
  injection h' with h'
  rw [← h']
  exact hw
end Go.Proofs.Qxb6628443a
