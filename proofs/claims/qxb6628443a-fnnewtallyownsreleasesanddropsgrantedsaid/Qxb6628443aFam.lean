import Derived.Test.Qxb6628443aMem
namespace Go.Proofs.Qxb6628443a
open Go.RowKit

/-- A row of m cells of the call's own at a slice's address, none frozen. -/
structure Fam (w : World) (ga : Option Addr) (m : Nat) : Prop where
  is : ∀ j, j < m → ∃ v, w.cell? ⟨blk ga, ofs ga + j, none⟩ = some v
  fr : ∀ j, j < m → w.frozen? ⟨blk ga, ofs ga + j, none⟩ = false

theorem cell_set_same {w : World} {a : Addr} {u : Value} (v : Value) (h : w.cell? a = some u) : (w.setCell a v).cell? a = some v := World.cell?_setCell_same w a v h
theorem cell_set_ne {w : World} {a b : Addr} (v : Value) (h : a ≠ b) : (w.setCell a v).cell? b = w.cell? b := World.cell?_setCell_other w a b v h
theorem bk_ne {q r b c : Nat} (h : q ≠ r) : (⟨q, b, none⟩ : Addr) ≠ ⟨r, c, none⟩ := fun e => by injection e; omega
theorem of_ne {q r b c : Nat} (h : b ≠ c) : (⟨q, b, none⟩ : Addr) ≠ ⟨r, c, none⟩ := fun e => by injection e; omega

theorem Fam.below {w w' : World} {ga : Option Addr} {m B : Nat} (h : Fam w ga m) (hb : Below B w w') (hB : 0 < m → blk ga < B) : Fam w' ga m :=
  ⟨fun j hj => by obtain ⟨u, hu⟩ := h.is j hj; exact ⟨u, cell_below hb hu (hB (by omega))⟩, fun j hj => (hb.frozen (p := ⟨blk ga, ofs ga + j, none⟩) (hB (by omega))).trans (h.fr j hj)⟩
/-- A row just made. -/
theorem Fam.made (w : World) (ga : Option Addr) (m : Nat) (z : Array Value) (t : TypeId) (hga : ga = some ⟨w.heap.size, 0, none⟩) : Fam (w.alloc (.cells (madeCells z m) t)) ga m := by
  subst hga
  have e1 : blk (some ⟨w.heap.size, 0, none⟩) = w.heap.size := rfl
  have e2 : ofs (some ⟨w.heap.size, 0, none⟩) = 0 := rfl
  refine ⟨fun j hj => ?_, fun j _ => ?_⟩
  · rw [e1, e2, Nat.zero_add, World.cell?_alloc_new]
    exact ⟨(madeCells z m)[j]'(by rw [size_madeCells]; exact hj), Array.getElem?_eq_getElem _⟩
  · rw [e1, e2, World.frozen?_alloc_new]

/-- Some cells in a row, stored one behind the other. -/
def setRow (w : World) (b o : Nat) : List Value → World
  | [] => w
  | v :: vs => setRow (w.setCell ⟨b, o, none⟩ v) b (o + 1) vs
theorem setRow_below {B : Nat} {a : World} {b : Nat} (hB : B ≤ b) : ∀ (vs : List Value) {w : World} {o : Nat}, Below B a w → Below B a (setRow w b o vs)
  | [], _, _, h => h
  | _ :: vs, _, _, h => setRow_below hB vs (below_set h _ _ hB _)
theorem setRow_frozen {b : Nat} (p : Addr) : ∀ (vs : List Value) {w : World} {o : Nat}, (setRow w b o vs).frozen? p = w.frozen? p
  | [], _, _ => rfl
  | _ :: vs, _, _ => by rw [setRow, setRow_frozen p vs, World.frozen?_setCell]
theorem setRow_ne {b c q : Nat} : ∀ (vs : List Value) {w : World} {o : Nat}, (b ≠ c ∨ q < o ∨ o + vs.length ≤ q) → (setRow w b o vs).cell? ⟨c, q, none⟩ = w.cell? ⟨c, q, none⟩
  | [], _, _, _ => rfl
  | _ :: vs, _, o, h => by
    rw [setRow, setRow_ne vs (by simp only [List.length_cons] at h; omega), cell_set_ne]
    intro e
    injection e with e1 e2
    simp only [List.length_cons] at h
    omega
theorem setRow_at {b : Nat} : ∀ (vs : List Value) {w : World} {o : Nat} (j : Nat), j < vs.length → (∀ i, i < vs.length → ∃ v, w.cell? ⟨b, o + i, none⟩ = some v) → (setRow w b o vs).cell? ⟨b, o + j, none⟩ = vs[j]?
  | [], _, _, j, h, _ => by simp at h
  | v :: vs, w, o, 0, _, hc => by
    rw [setRow, setRow_ne vs (by omega)]
    obtain ⟨u, hu⟩ := hc 0 (by simp)
    exact cell_set_same v hu
  | v :: vs, w, o, j + 1, h, hc => by
    have := setRow_at vs (w := w.setCell ⟨b, o, none⟩ v) (o := o + 1) j (by simpa using h) (fun i hi => by
      obtain ⟨u, hu⟩ := hc (i + 1) (by simpa using hi)
      refine ⟨u, ?_⟩
      rw [cell_set_ne _ (by intro e; injection e; omega), show o + 1 + i = o + (i + 1) by omega]
      exact hu)
    rw [setRow, show o + (j + 1) = o + 1 + j by omega, this]
    simp

/-- The first k records are laid. -/
def UpTo (w : World) (ga : Option Addr) (sz : Nat) (F : Nat → Nat → Value) (k : Nat) : Prop := ∀ i, i < k → ∀ j, j < sz → w.cell? ⟨blk ga, ofs ga + i * sz + j, none⟩ = some (F i j)
theorem mul_lt {i n sz j : Nat} (hi : i < n) (hj : j < sz) : i * sz + j < n * sz := by
  have : (i + 1) * sz ≤ n * sz := Nat.mul_le_mul_right _ hi
  rw [Nat.add_mul] at this
  omega
/-- One record more. -/
theorem upTo_step {wr : World} {ga : Option Addr} {sz n k : Nat} {F : Nat → Nat → Value} {vs : List Value} (hf : Fam wr ga (n * sz)) (hu : UpTo wr ga sz F k) (hk : k < n) (hl : vs.length = sz) (hv : ∀ j, j < sz → vs[j]? = some (F k j)) :
    Fam (setRow wr (blk ga) (ofs ga + k * sz) vs) ga (n * sz) ∧ UpTo (setRow wr (blk ga) (ofs ga + k * sz) vs) ga sz F (k + 1) := by
  have at_ : ∀ j, j < sz → (setRow wr (blk ga) (ofs ga + k * sz) vs).cell? ⟨blk ga, ofs ga + k * sz + j, none⟩ = some (F k j) := fun j hj => by
    rw [setRow_at vs j (by omega) (fun i hi => by
      obtain ⟨u, hu⟩ := hf.is (k * sz + i) (mul_lt hk (by omega))
      exact ⟨u, by rw [Nat.add_assoc]; exact hu⟩), hv j hj]
  refine ⟨⟨fun p hp => ?_, fun p hp => by rw [setRow_frozen]; exact hf.fr p hp⟩, fun i hi j hj => ?_⟩
  · by_cases h : k * sz ≤ p ∧ p < k * sz + sz
    · have := at_ (p - k * sz) (by omega)
      rw [show ofs ga + k * sz + (p - k * sz) = ofs ga + p by omega] at this
      exact ⟨_, this⟩
    · obtain ⟨u, hu⟩ := hf.is p hp
      exact ⟨u, by rw [setRow_ne vs (by omega)]; exact hu⟩
  · by_cases e : i = k
    · subst e
      exact at_ j hj
    · have : i * sz + j < k * sz := mul_lt (by omega) hj
      rw [setRow_ne vs (by omega)]
      exact hu i (by omega) j hj
theorem Fam.drew {w : World} {ga : Option Addr} {m : Nat} (h : Fam w ga m) : Fam w.drew ga m := ⟨h.is, h.fr⟩

/-- What a call of zzSnap has laid: the snapshot's own cells. -/
structure SAt (w wr : World) (l : Value) (tok : Int) (r : Value) (mem : Int) (b g : Value) : Prop where
  bel : Below w.heap.size w wr
  c0 : wr.cell? ⟨w.heap.size + 1, 0, none⟩ = some l
  c1 : wr.cell? ⟨w.heap.size + 1, 1, none⟩ = some (.int .u64 tok)
  c2 : wr.cell? ⟨w.heap.size + 1, 2, none⟩ = some r
  c3 : wr.cell? ⟨w.heap.size + 1, 3, none⟩ = some (.int .i64 mem)
  c4 : wr.cell? ⟨w.heap.size + 1, 4, none⟩ = some b
  c5 : wr.cell? ⟨w.heap.size + 1, 5, none⟩ = some g
  fs : ∀ j, wr.frozen? ⟨w.heap.size + 1, j, none⟩ = false
  z : ∀ j, j < 6 → ∃ v, wr.cell? ⟨w.heap.size, j, none⟩ = some v
  fz : ∀ j, wr.frozen? ⟨w.heap.size, j, none⟩ = false
  up : w.heap.size + 2 ≤ wr.heap.size
theorem SAt.below {w wr wr' : World} {l r b g : Value} {tok mem : Int} {B : Nat} (h : SAt w wr l tok r mem b g) (hb : Below B wr wr') (hB : w.heap.size + 2 ≤ B) : SAt w wr' l tok r mem b g :=
  ⟨h.bel.trans (hb.mono (by omega)), cell_below hb h.c0 (by show _ + 1 < B; omega), cell_below hb h.c1 (by show _ + 1 < B; omega), cell_below hb h.c2 (by show _ + 1 < B; omega), cell_below hb h.c3 (by show _ + 1 < B; omega), cell_below hb h.c4 (by show _ + 1 < B; omega), cell_below hb h.c5 (by show _ + 1 < B; omega),
    fun j => (hb.frozen (p := ⟨w.heap.size + 1, j, none⟩) (by show _ + 1 < B; omega)).trans (h.fs j), fun j hj => by obtain ⟨v, hv⟩ := h.z j hj; exact ⟨v, cell_below hb hv (by show w.heap.size < B; omega)⟩, fun j => (hb.frozen (p := ⟨w.heap.size, j, none⟩) (by show w.heap.size < B; omega)).trans (h.fz j), by have := hb.size; have := h.up; omega⟩
/-- A row laid, of the call's own. -/
def RowOK (w wr : World) (a : Option Addr) (sz n : Nat) (F : Nat → Nat → Value) (lo : Nat) (v : Value) : Prop :=
  ∃ ga, v = .slice ga n n ∧ Recs wr ga sz n F ∧ ga.isNone = a.isNone ∧ (0 < n → lo ≤ blk ga ∧ blk ga < wr.heap.size) ∧ Fam wr ga (n * sz) ∧ w.heap.size + 2 ≤ lo
theorem RowOK.below {w wr wr' : World} {a : Option Addr} {sz n : Nat} {F : Nat → Nat → Value} {lo : Nat} {v : Value} (h : RowOK w wr a sz n F lo v) (hb : Below wr.heap.size wr wr') : RowOK w wr' a sz n F lo v := by
  obtain ⟨ga, rfl, hr, hn, hl, hf, hlo⟩ := h
  have pos : 0 < n * sz → 0 < n := fun h => by rcases Nat.eq_zero_or_pos n with e | e; (subst e; simp at h); exact e
  exact ⟨ga, rfl, hr.below hb, hn, fun h => ⟨(hl h).1, by have := hb.size; have := (hl h).2; omega⟩, hf.below hb (fun h => (hl (pos h)).2), hlo⟩
theorem RowOK.set {w wr : World} {a : Option Addr} {sz n : Nat} {F : Nat → Nat → Value} {lo : Nat} {v : Value} (h : RowOK w wr a sz n F lo v) (q : Nat) (u : Value) : RowOK w (wr.setCell ⟨w.heap.size + 1, q, none⟩ u) a sz n F lo v := by
  obtain ⟨ga, rfl, hr, hn, hl, hf, hlo⟩ := h
  have pos : 0 < n * sz → 0 < n := fun h => by rcases Nat.eq_zero_or_pos n with e | e; (subst e; simp at h); exact e
  refine ⟨ga, rfl, ⟨hr.pl, fun i hi j hj => ?_⟩, hn, fun h => ⟨(hl h).1, by rw [World.size_setCell]; exact (hl h).2⟩, ⟨fun j hj => ?_, fun j hj => by rw [World.frozen?_setCell]; exact hf.fr j hj⟩, hlo⟩
  · have := hl (by omega)
    rw [cell_set_ne _ (bk_ne (by omega))]
    exact hr.c i hi j hj
  · have := hl (pos (by omega))
    obtain ⟨v, hv⟩ := hf.is j hj
    exact ⟨v, by rw [cell_set_ne _ (bk_ne (by omega))]; exact hv⟩
end Go.Proofs.Qxb6628443a
