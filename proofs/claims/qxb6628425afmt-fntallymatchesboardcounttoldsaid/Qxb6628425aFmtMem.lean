/-
  Seat b6628425aF. What lies in memory: slices of strings. Plain descriptions and how they are carried from world to world.
-/
import Derived.Test.Qxb6628425aFmtCards
import Derived.WalkKit
import Derived.WalkSpells
namespace Go.Proofs.Qxb6628425aFmt
open Go.RowKit

def blk (a : Option Addr) : Nat := (a.getD default).block
def ofs (a : Option Addr) : Nat := (a.getD default).off
/-- A slice's address, where it has an element, is a plain one. -/
def Pl (a : Option Addr) (n : Nat) : Prop := 0 < n → a = some ⟨blk a, ofs a, none⟩

theorem hide {p : Prop} (h : p) : Hid p := h

/-- 'x[i]' of a slice whose address is plain. -/
theorem run_index_at {P : Program} {t e : TypeId} {a : Option Addr} {n c k sz : Nat} (ht : P.underlying t = some (.slice e)) (hs : ∀ w, (sizeOf e).run P w = .ok sz w) (hp : Pl a n) (hk : k < n) (w : World) :
    (Instr.indexAt t (.slice a n c) (.int .i64 (k : Int))).run P w = .ok (.pointer (some ⟨blk a, ofs a + k * sz, none⟩)) w := by
  have ha := hp (by omega)
  have he : P.elem t = e := by simp [Program.elem, ht]
  generalize blk a = b at ha ⊢
  generalize ofs a = o at ha ⊢
  subst ha
  rw [run_indexAt_slice _ _ _ _ _ _ _ (by rw [he]; exact ht), if_pos ⟨by omega, by omega⟩, he, hs]
  simp [Result.andThen, Addr.add]
theorem size9 (w : World) : (sizeOf 9).run Tryf.prog w = .ok 1 w := by kernel_rfl

def nth (l : List ByteArray) (i : Nat) : ByteArray := l.getD i ByteArray.empty

/-- strings at a slice's address. -/
structure StrsIn (w : World) (a : Option Addr) (l : List ByteArray) : Prop where
  pl : Pl a l.length
  c0 : ∀ i, i < l.length → w.cell? ⟨blk a, ofs a + i, none⟩ = some (.string (nth l i))

theorem lt_of_cell {w : World} {p : Addr} {v : Value} (h : w.cell? p = some v) : p.block < w.heap.size := by
  unfold World.cell? at h
  rcases Nat.lt_or_ge p.block w.heap.size with g | g
  · exact g
  · simp [Array.getElem?_eq_none g] at h
theorem StrsIn.lt {w : World} {a : Option Addr} {l : List ByteArray} (h : StrsIn w a l) (i : Nat) (hi : i < l.length) : blk a < w.heap.size := by have := lt_of_cell (h.c0 i hi); exact this
theorem cell_below {B : Nat} {w w' : World} (hb : Below B w w') {p : Addr} {v : Value} (h : w.cell? p = some v) (hp : p.block < B) : w'.cell? p = some v := (hb.cell hp).trans h
theorem StrsIn.below {w w' : World} {a : Option Addr} {l : List ByteArray} (h : StrsIn w a l) (hb : Below w.heap.size w w') : StrsIn w' a l :=
  ⟨h.pl, fun i hi => cell_below hb (h.c0 i hi) (h.lt i hi)⟩
theorem below1 (w : World) (o : Obj) : Below w.heap.size w (w.alloc o) := (Below.refl _ _).alloc (Nat.le_refl _) _
theorem below2 (w : World) (o1 o2 : Obj) : Below w.heap.size w ((w.alloc o1).alloc o2) := (below1 w o1).alloc (by simp) o2
theorem below_set {B : Nat} {a w : World} (h : Below B a w) (q o : Nat) (hq : B ≤ q) (u : Value) : Below B a (w.setCell ⟨q, o, none⟩ u) := h.setCell (p := ⟨q, o, none⟩) hq u

/-- Just this value comes back; nothing old has turned. -/
def Ret1 (w : World) (v : Value) (e : Ending) (w' : World) : Prop := e = .returned v ∧ Below w.heap.size w w'
/-- A bool comes back; nothing old has turned; if it is true, Q holds. -/
def BoolRet (w : World) (Q : Prop) (e : Ending) (w' : World) : Prop := ∃ b, e = .returned (.bool b) ∧ Below w.heap.size w w' ∧ (b = true → Q)
theorem BoolRet.no {w w' : World} {Q : Prop} {e : Ending} (he : e = .returned (.bool false)) (hb : Below w.heap.size w w') : BoolRet w Q e w' := ⟨false, he, hb, by simp⟩
theorem BoolRet.yes {w w' : World} {Q : Prop} {e : Ending} (he : e = .returned (.bool true)) (hb : Below w.heap.size w w') (hq : Q) : BoolRet w Q e w' := ⟨true, he, hb, fun _ => hq⟩

theorem bytes_ext {a b : ByteArray} (h : a.toList = b.toList) : a = b := by
  rw [ByteArray.toList_eq, ByteArray.toList_eq] at h
  cases a with | mk x => cases b with | mk y =>
    simp at h
    rw [h]
theorem eq_of_beq {a b : ByteArray} (h : (a.toList == b.toList) = true) : a = b := bytes_ext (by simpa using h)
theorem ne_of_beq {a b : ByteArray} (h : (a.toList == b.toList) = false) : a ≠ b := fun e => by rw [e] at h; simp at h

/-- Is x among l? -/
def has (l : List ByteArray) (x : ByteArray) : Bool := l.any (fun y => y.toList == x.toList)
theorem has_iff {l : List ByteArray} {x : ByteArray} : has l x = true ↔ x ∈ l := by
  unfold has
  rw [List.any_eq_true]
  constructor
  · rintro ⟨y, hy, e⟩; rw [← eq_of_beq e]; exact hy
  · exact fun h => ⟨x, h, by simp⟩
theorem has_not {l : List ByteArray} {x : ByteArray} : has l x = false ↔ ¬ x ∈ l := by rw [← has_iff]; simp
theorem nth_eq {l : List ByteArray} {k : Nat} (h : k < l.length) : nth l k = l[k] := by simp [nth, h]
theorem has_nth {l : List ByteArray} {k : Nat} (h : k < l.length) : has l (nth l k) = true := has_iff.2 (by rw [nth_eq h]; exact List.getElem_mem h)
theorem has_no {l : List ByteArray} {x : ByteArray} (h : ∀ j, j < l.length → nth l j ≠ x) : has l x = false := by
  rw [has_not]
  intro hm
  obtain ⟨j, hj, e⟩ := List.getElem_of_mem hm
  exact h j hj (by rw [nth_eq hj]; exact e)
end Go.Proofs.Qxb6628425aFmt
