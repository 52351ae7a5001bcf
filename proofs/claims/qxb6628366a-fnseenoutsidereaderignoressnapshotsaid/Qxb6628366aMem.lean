/-
  Seat b6628366a. What lies in memory: rows of LawValue, LawVersions, lists of bools. Plain descriptions and how they are carried from world to world.
-/
import Derived.Test.Qxb6628366aRows
import Derived.WalkKit
import Derived.WalkSpells
namespace Go.Proofs.Qxb6628366a
open Go.RowKit

structure LV where
  valid : Bool
  n : Int
  s : ByteArray

structure LVer where
  ra : Option Addr
  rn : Nat
  rc : Nat
  row : Nat → LV
  ghost : Bool
  writer : Int
  com : Int

def blk (a : Option Addr) : Nat := (a.getD default).block
def ofs (a : Option Addr) : Nat := (a.getD default).off

/-- A slice's address, where it has an element, is a plain one. -/
def Pl (a : Option Addr) (n : Nat) : Prop := 0 < n → a = some ⟨blk a, ofs a, none⟩

/-- 'x[i]' of a slice whose address is plain. -/
theorem run_index_at {P : Program} {t e : TypeId} {a : Option Addr} {n c k sz : Nat} (ht : P.underlying t = some (.slice e)) (hs : ∀ w, (sizeOf e).run P w = .ok sz w) (hp : Pl a n) (hk : k < n) (w : World) :
    (Instr.indexAt t (.slice a n c) (.int .i64 (k : Int))).run P w = .ok (.pointer (some ⟨blk a, ofs a + k * sz, none⟩)) w := by
  have ha := hp (by omega)
  have he : P.elem t = e := by simp [Program.elem, ht]
  generalize blk a = b at ha ⊢
  generalize ofs a = o at ha ⊢
  subst ha
  rw [run_indexAt_slice _ _ _ _ _ _ _ (by rw [he]; exact ht), if_pos ⟨by omega, by omega⟩, he, hs]
  simp [Result.andThen, Addr.add]

/-- The same at an index that is an int. -/
theorem run_index_int {P : Program} {t e : TypeId} {a : Option Addr} {n c sz : Nat} {i : Int} (ht : P.underlying t = some (.slice e)) (hs : ∀ w, (sizeOf e).run P w = .ok sz w) (hp : Pl a n) (h0 : 0 ≤ i) (hk : i < n) (w : World) :
    (Instr.indexAt t (.slice a n c) (.int .i64 i)).run P w = .ok (.pointer (some ⟨blk a, ofs a + i.toNat * sz, none⟩)) w := by
  obtain ⟨k, rfl⟩ := Int.eq_ofNat_of_zero_le h0
  exact run_index_at ht hs hp (by omega) w

theorem size49 (w : World) : (sizeOf 49).run Try.prog w = .ok 3 w := by kernel_rfl
theorem size25 (w : World) : (sizeOf 25).run Try.prog w = .ok 4 w := by kernel_rfl
theorem size4 (w : World) : (sizeOf 4).run Try.prog w = .ok 1 w := by kernel_rfl

/-- A row of LawValues at a slice's address. -/
structure RowIn (w : World) (a : Option Addr) (n : Nat) (f : Nat → LV) : Prop where
  pl : Pl a n
  c0 : ∀ i, i < n → w.cell? ⟨blk a, ofs a + i * 3, none⟩ = some (.bool (f i).valid)
  c1 : ∀ i, i < n → w.cell? ⟨blk a, ofs a + i * 3 + 1, none⟩ = some (.int .i64 (f i).n)
  c2 : ∀ i, i < n → w.cell? ⟨blk a, ofs a + i * 3 + 2, none⟩ = some (.string (f i).s)

/-- LawVersions at a slice's address, each with its row. -/
structure VersIn (w : World) (a : Option Addr) (n : Nat) (V : Nat → LVer) : Prop where
  pl : Pl a n
  c0 : ∀ i, i < n → w.cell? ⟨blk a, ofs a + i * 4, none⟩ = some (.slice (V i).ra (V i).rn (V i).rc)
  c1 : ∀ i, i < n → w.cell? ⟨blk a, ofs a + i * 4 + 1, none⟩ = some (.bool (V i).ghost)
  c2 : ∀ i, i < n → w.cell? ⟨blk a, ofs a + i * 4 + 2, none⟩ = some (.int .i64 (V i).writer)
  c3 : ∀ i, i < n → w.cell? ⟨blk a, ofs a + i * 4 + 3, none⟩ = some (.int .u64 (V i).com)
  row : ∀ i, i < n → RowIn w (V i).ra (V i).rn (V i).row

/-- bools at a slice's address. -/
structure BoolsIn (w : World) (a : Option Addr) (n : Nat) (S : Nat → Bool) : Prop where
  pl : Pl a n
  c0 : ∀ i, i < n → w.cell? ⟨blk a, ofs a + i, none⟩ = some (.bool (S i))

theorem lt_of_cell {w : World} {p : Addr} {v : Value} (h : w.cell? p = some v) : p.block < w.heap.size := by
  unfold World.cell? at h
  rcases Nat.lt_or_ge p.block w.heap.size with g | g
  · exact g
  · simp [Array.getElem?_eq_none g] at h

theorem RowIn.lt {w : World} {a : Option Addr} {n : Nat} {f : Nat → LV} (h : RowIn w a n f) (i : Nat) (hi : i < n) : blk a < w.heap.size := by have := lt_of_cell (h.c0 i hi); exact this
theorem VersIn.lt {w : World} {a : Option Addr} {n : Nat} {f : Nat → LVer} (h : VersIn w a n f) (i : Nat) (hi : i < n) : blk a < w.heap.size := by have := lt_of_cell (h.c0 i hi); exact this
theorem BoolsIn.lt {w : World} {a : Option Addr} {n : Nat} {f : Nat → Bool} (h : BoolsIn w a n f) (i : Nat) (hi : i < n) : blk a < w.heap.size := by have := lt_of_cell (h.c0 i hi); exact this

theorem cell_below {B : Nat} {w w' : World} (hb : Below B w w') {p : Addr} {v : Value} (h : w.cell? p = some v) (hp : p.block < B) : w'.cell? p = some v := (hb.cell hp).trans h

theorem RowIn.below {w w' : World} {a : Option Addr} {n : Nat} {f : Nat → LV} (h : RowIn w a n f) (hb : Below w.heap.size w w') : RowIn w' a n f :=
  ⟨h.pl, fun i hi => cell_below hb (h.c0 i hi) (h.lt i hi), fun i hi => cell_below hb (h.c1 i hi) (h.lt i hi), fun i hi => cell_below hb (h.c2 i hi) (h.lt i hi)⟩
theorem VersIn.below {w w' : World} {a : Option Addr} {n : Nat} {f : Nat → LVer} (h : VersIn w a n f) (hb : Below w.heap.size w w') : VersIn w' a n f :=
  ⟨h.pl, fun i hi => cell_below hb (h.c0 i hi) (h.lt i hi), fun i hi => cell_below hb (h.c1 i hi) (h.lt i hi), fun i hi => cell_below hb (h.c2 i hi) (h.lt i hi), fun i hi => cell_below hb (h.c3 i hi) (h.lt i hi), fun i hi => (h.row i hi).below hb⟩
theorem BoolsIn.below {w w' : World} {a : Option Addr} {n : Nat} {f : Nat → Bool} (h : BoolsIn w a n f) (hb : Below w.heap.size w w') : BoolsIn w' a n f :=
  ⟨h.pl, fun i hi => cell_below hb (h.c0 i hi) (h.lt i hi)⟩

theorem below1 (w : World) (o : Obj) : Below w.heap.size w (w.alloc o) := (Below.refl _ _).alloc (Nat.le_refl _) _

/-- Just this value comes back; nothing old has turned. -/
def Ret1 (w : World) (v : Value) (e : Ending) (w' : World) : Prop := e = .returned v ∧ Below w.heap.size w w'

/-- A bool comes back; nothing old has turned; if it is true, Q holds. -/
def BoolRet (w : World) (Q : Prop) (e : Ending) (w' : World) : Prop := ∃ b, e = .returned (.bool b) ∧ Below w.heap.size w w' ∧ (b = true → Q)
theorem BoolRet.no {w w' : World} {Q : Prop} {e : Ending} (he : e = .returned (.bool false)) (hb : Below w.heap.size w w') : BoolRet w Q e w' := ⟨false, he, hb, by simp⟩
theorem BoolRet.yes {w w' : World} {Q : Prop} {e : Ending} (he : e = .returned (.bool true)) (hb : Below w.heap.size w w') (hq : Q) : BoolRet w Q e w' := ⟨true, he, hb, fun _ => hq⟩

/-- What 'zzBytes' asks: every length is at most 1<<20. -/
structure Small (h : LVer) (on : Nat) (V : Nat → LVer) (sn : Nat) : Prop where
  hr : h.rn ≤ 1048576
  hs : ∀ i, i < h.rn → (h.row i).s.size ≤ 1048576
  ol : on ≤ 1048576
  vr : ∀ i, i < on → (V i).rn ≤ 1048576
  vs : ∀ i, i < on → ∀ j, j < (V i).rn → ((V i).row j).s.size ≤ 1048576
  sl : sn ≤ 1048576
end Go.Proofs.Qxb6628366a
