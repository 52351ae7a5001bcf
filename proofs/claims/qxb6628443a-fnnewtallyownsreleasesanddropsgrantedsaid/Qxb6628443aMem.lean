/-
  Seat b6628443a. What lies in memory: slices of records. Plain descriptions and how they are carried from world to world.
-/
import Derived.Test.Qxb6628443aRows
import Derived.WalkKit
import Derived.WalkSpells
import Derived.BigQuiet
import Derived.Deep.QuietTactic
namespace Go.Proofs.Qxb6628443a
open Go.RowKit

def blk (a : Option Addr) : Nat := (a.getD default).block
def ofs (a : Option Addr) : Nat := (a.getD default).off
/-- A slice's address, where it has an element, is a plain one. -/
def Pl (a : Option Addr) (n : Nat) : Prop := 0 < n → a = some ⟨blk a, ofs a, none⟩

theorem hide {p : Prop} (h : p) : Hid p := h

/-- 'x[i]' of a slice whose address is plain. -/
theorem run_index_at {P : Program} {t e : TypeId} {a : Option Addr} {n c k sz : Nat} (ht : P.underlying t = some (.slice e)) (hs : ∀ w, (sizeOf e).run P w = .ok sz w) (hp : Pl a n) (hk : k < n) (w : World) :
    (Instr.indexAt t (.slice a n c) (.int .i64 (k : Int))).run P w = .ok (.pointer (some ⟨blk a, ofs a + k * sz, none⟩)) w := by
  have ha := hp (by omega)
  have he : P.elem t = e := by simp [Program.elem, ht]
  generalize blk a = b at ha ⊢
  generalize ofs a = o at ha ⊢
  subst ha
  rw [run_indexAt_slice _ _ _ _ _ _ _ (by rw [he]; exact ht), if_pos ⟨by omega, by omega⟩, he, hs]
  simp [Result.andThen, Addr.add]
theorem size50 (w : World) : (sizeOf 50).run Try.prog w = .ok 6 w := by kernel_rfl
theorem size71 (w : World) : (sizeOf 71).run Try.prog w = .ok 3 w := by kernel_rfl
theorem size58 (w : World) : (sizeOf 58).run Try.prog w = .ok 3 w := by kernel_rfl
theorem size66 (w : World) : (sizeOf 66).run Try.prog w = .ok 7 w := by kernel_rfl
theorem size47 (w : World) : (sizeOf 47).run Try.prog w = .ok 6 w := by kernel_rfl
theorem size69 (w : World) : (sizeOf 69).run Try.prog w = .ok 3 w := by kernel_rfl
theorem size56 (w : World) : (sizeOf 56).run Try.prog w = .ok 3 w := by kernel_rfl
theorem size63 (w : World) : (sizeOf 63).run Try.prog w = .ok 7 w := by kernel_rfl

structure LI where
  name : ByteArray
  holder : ByteArray
  token : Int
  ttl : Int
  rem : Int
  key : ByteArray
structure RI where
  token : Int
  key : ByteArray
  at_ : Int
structure BI where
  name : ByteArray
  units : Int
  granted : Int
structure GI where
  budget : ByteArray
  holder : ByteArray
  token : Int
  units : Int
  ttl : Int
  rem : Int
  key : ByteArray
def LI.c (r : LI) : Nat → Value
  | 0 => .string r.name
  | 1 => .string r.holder
  | 2 => .int .u64 r.token
  | 3 => .int .i64 r.ttl
  | 4 => .int .i64 r.rem
  | _ => .string r.key
def RI.c (r : RI) : Nat → Value
  | 0 => .int .u64 r.token
  | 1 => .string r.key
  | _ => .int .i64 r.at_
def BI.c (r : BI) : Nat → Value
  | 0 => .string r.name
  | 1 => .int .u64 r.units
  | _ => .int .u64 r.granted
def GI.c (r : GI) : Nat → Value
  | 0 => .string r.budget
  | 1 => .string r.holder
  | 2 => .int .u64 r.token
  | 3 => .int .u64 r.units
  | 4 => .int .i64 r.ttl
  | 5 => .int .i64 r.rem
  | _ => .string r.key

/-- n records of sz cells at a slice's address. -/
structure Recs (w : World) (a : Option Addr) (sz n : Nat) (F : Nat → Nat → Value) : Prop where
  pl : Pl a n
  c : ∀ i, i < n → ∀ j, j < sz → w.cell? ⟨blk a, ofs a + i * sz + j, none⟩ = some (F i j)

theorem lt_of_cell {w : World} {p : Addr} {v : Value} (h : w.cell? p = some v) : p.block < w.heap.size := by
  unfold World.cell? at h
  rcases Nat.lt_or_ge p.block w.heap.size with g | g
  · exact g
  · simp [Array.getElem?_eq_none g] at h
theorem cell_below {B : Nat} {w w' : World} (hb : Below B w w') {p : Addr} {v : Value} (h : w.cell? p = some v) (hp : p.block < B) : w'.cell? p = some v := (hb.cell hp).trans h
theorem Recs.lt {w : World} {a : Option Addr} {sz n : Nat} {F : Nat → Nat → Value} (h : Recs w a sz n F) (i : Nat) (hi : i < n) (hs : 0 < sz) : blk a < w.heap.size := by
  have := lt_of_cell (h.c i hi 0 hs); exact this
theorem Recs.below {w w' : World} {a : Option Addr} {sz n : Nat} {F : Nat → Nat → Value} (h : Recs w a sz n F) (hb : Below w.heap.size w w') : Recs w' a sz n F :=
  ⟨h.pl, fun i hi j hj => cell_below hb (h.c i hi j hj) (lt_of_cell (h.c i hi j hj))⟩
theorem below1 (w : World) (o : Obj) : Below w.heap.size w (w.alloc o) := (Below.refl _ _).alloc (Nat.le_refl _) _
theorem below2 (w : World) (o1 o2 : Obj) : Below w.heap.size w ((w.alloc o1).alloc o2) := (below1 w o1).alloc (by simp) o2
theorem below_set {B : Nat} {a w : World} (h : Below B a w) (q o : Nat) (hq : B ≤ q) (u : Value) : Below B a (w.setCell ⟨q, o, none⟩ u) := h.setCell (p := ⟨q, o, none⟩) hq u
theorem drewN_below {B : Nat} {a w : World} (h : Below B a w) (n : Nat) : Below B a (w.drewN n) := ⟨h.os, h.tape, h.output, h.size, h.block⟩

/-- Just this value comes back; nothing old has turned. -/
def Ret1 (w : World) (v : Value) (e : Ending) (w' : World) : Prop := e = .returned v ∧ Below w.heap.size w w'
/-- A bool comes back; nothing old has turned; if it is true, Q holds. -/
def BoolRet (w : World) (Q : Prop) (e : Ending) (w' : World) : Prop := ∃ b, e = .returned (.bool b) ∧ w' = w ∧ (b = true → Q)
theorem BoolRet.no {w : World} {Q : Prop} {e : Ending} (he : e = .returned (.bool false)) : BoolRet w Q e w := ⟨false, he, rfl, by simp⟩
theorem BoolRet.yes {w : World} {Q : Prop} {e : Ending} (he : e = .returned (.bool true)) (hq : Q) : BoolRet w Q e w := ⟨true, he, rfl, fun _ => hq⟩

/-- The arguments. -/
structure Inp (w : World) (la : Option Addr) (ln : Nat) (L : Nat → LI) (ra : Option Addr) (rn : Nat) (R : Nat → RI) (ba : Option Addr) (bn : Nat) (B : Nat → BI) (ga : Option Addr) (gn : Nat) (G : Nat → GI) : Prop where
  l : Recs w la 6 ln (fun i => (L i).c)
  r : Recs w ra 3 rn (fun i => (R i).c)
  b : Recs w ba 3 bn (fun i => (B i).c)
  g : Recs w ga 7 gn (fun i => (G i).c)
  bl : ln ≤ maxLen
  br : rn ≤ maxLen
  bb : bn ≤ maxLen
  bg : gn ≤ maxLen
theorem Inp.below {w w' : World} {la : Option Addr} {ln : Nat} {L : Nat → LI} {ra : Option Addr} {rn : Nat} {R : Nat → RI} {ba : Option Addr} {bn : Nat} {B : Nat → BI} {ga : Option Addr} {gn : Nat} {G : Nat → GI} (i : Inp w la ln L ra rn R ba bn B ga gn G) (hb : Below w.heap.size w w') : Inp w' la ln L ra rn R ba bn B ga gn G :=
  ⟨i.l.below hb, i.r.below hb, i.b.below hb, i.g.below hb, i.bl, i.br, i.bb, i.bg⟩

/-- Lengths within the bound. -/
def SmL (ln : Nat) (L : Nat → LI) : Prop := ln ≤ 1048576 ∧ ∀ i, i < ln → (L i).name.size ≤ 1048576 ∧ (L i).holder.size ≤ 1048576 ∧ (L i).key.size ≤ 1048576
def SmR (rn : Nat) (R : Nat → RI) : Prop := rn ≤ 1048576 ∧ ∀ i, i < rn → (R i).key.size ≤ 1048576
def SmB (bn : Nat) (B : Nat → BI) : Prop := bn ≤ 1048576 ∧ ∀ i, i < bn → (B i).name.size ≤ 1048576
def SmG (gn : Nat) (G : Nat → GI) : Prop := gn ≤ 1048576 ∧ ∀ i, i < gn → (G i).budget.size ≤ 1048576 ∧ (G i).holder.size ≤ 1048576 ∧ (G i).key.size ≤ 1048576
end Go.Proofs.Qxb6628443a
