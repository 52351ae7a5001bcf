import Derived.Test.Qxb6628366aW6
import Derived.Test.Qxb6628366aW5
import Derived.Deep.RegionHeld3
namespace Go.Proofs.Qxb6628366a
open Go.RowKit

theorem toRow (a : Option Addr) (n c : Nat) (f : Nat → LV) (w : World) (hr : RowIn w a n f) (hn : n ≤ 1048576) (hz : a = none → n = 0 ∧ c = 0) : Calls Try.prog 21 #[.slice a n c] w (RowRet w a n f) := by
  cases a with
  | none => obtain ⟨rfl, rfl⟩ := hz rfl; exact toRow_nil f w
  | some a => exact toRow_some a n c f w hr hn

/-- Pointers to owners at a slice's address. -/
structure OwnersIn (w : World) (oa : Option Addr) (n : Nat) (p : Nat → Nat) (S : Nat → Bool) : Prop where
  pl : Pl oa n
  c0 : ∀ i, i < n → w.cell? ⟨blk oa, ofs oa + i, none⟩ = some (.pointer (some ⟨p i, 0, none⟩))
  bl : ∀ i, i < n → w.heap[p i]? = some (.cells #[.int .u32 (S i).toInt] 64 (0, 0))
  inj : ∀ j, j < n → ∀ i, i < j → p i ≠ p j
theorem OwnersIn.lt {w : World} {oa : Option Addr} {n : Nat} {p : Nat → Nat} {S : Nat → Bool} (h : OwnersIn w oa n p S) (i : Nat) (hi : i < n) : blk oa < w.heap.size := by have := lt_of_cell (h.c0 i hi); exact this
theorem OwnersIn.lt1 {w : World} {oa : Option Addr} {n : Nat} {p : Nat → Nat} {S : Nat → Bool} (h : OwnersIn w oa n p S) (i : Nat) (hi : i < n) : p i < w.heap.size := by
  rcases Nat.lt_or_ge (p i) w.heap.size with g | g
  · exact g
  · have := h.bl i hi; simp [Array.getElem?_eq_none g] at this
theorem OwnersIn.c1 {w : World} {oa : Option Addr} {n : Nat} {p : Nat → Nat} {S : Nat → Bool} (h : OwnersIn w oa n p S) (i : Nat) (hi : i < n) : w.cell? ⟨p i, 0, none⟩ = some (.int .u32 (S i).toInt) := by
  unfold World.cell?
  rw [h.bl i hi]
  rfl
theorem OwnersIn.below {w w' : World} {oa : Option Addr} {n : Nat} {p : Nat → Nat} {S : Nat → Bool} (h : OwnersIn w oa n p S) (hb : Below w.heap.size w w') : OwnersIn w' oa n p S :=
  ⟨h.pl, fun i hi => cell_below hb (h.c0 i hi) (h.lt i hi), fun i hi => (hb.block _ (h.lt1 i hi)).trans (h.bl i hi), h.inj⟩
theorem size35 (w : World) : (sizeOf 35).run Try.prog w = .ok 1 w := by kernel_rfl

/-- The pointer of a writer. -/
def wptr (p : Nat → Nat) (n x : Int) : Option Addr := if own x n then some ⟨p x.toNat, 0, none⟩ else none

def VerRet (w : World) (v : LVer) (wp : Option Addr) (e : Ending) (w' : World) : Prop :=
  ∃ ga, e = .returned (.agg #[.slice ga v.rn v.rn, .bool v.ghost, .pointer wp, .int .u64 v.com]) ∧ Below w.heap.size w w' ∧ RowIn w' ga v.rn v.row ∧ ga.isNone = v.ra.isNone ∧ (0 < v.rn → w.heap.size ≤ blk ga)

theorem bcell {W w1 : World} (hb : Below W.heap.size W w1) : (∀ b o, b < W.heap.size → w1.cell? ⟨b, o, none⟩ = W.cell? ⟨b, o, none⟩) ∧ (∀ b o, b < W.heap.size → w1.frozen? ⟨b, o, none⟩ = W.frozen? ⟨b, o, none⟩) :=
  ⟨fun b o h => hb.cell (p := ⟨b, o, none⟩) h, fun b o h => hb.frozen (p := ⟨b, o, none⟩) h⟩

theorem below2 (w : World) (o1 o2 : Obj) : Below w.heap.size w ((w.alloc o1).alloc o2) := (below1 w o1).alloc (by simp) o2

/-- Two blocks laid, a draw, a callee that turns nothing old: what the two blocks hold. -/
theorem keep_first {w w1 : World} {c : Array Value} {t : TypeId} {o2 : Obj} (hb : Below ((w.alloc (.cells c t)).alloc o2).drew.heap.size ((w.alloc (.cells c t)).alloc o2).drew w1) (j : Nat) :
    w1.cell? ⟨w.heap.size, j, none⟩ = c[j]? := by
  rw [hb.cell (p := ⟨w.heap.size, j, none⟩) (by simp; omega), World.cell?_drew, World.cell?_alloc_past _ _ _ (by simp), World.cell?_alloc_new]
theorem keep_second {w w1 : World} {c : Array Value} {t : TypeId} {o1 : Obj} (hb : Below ((w.alloc o1).alloc (.cells c t)).drew.heap.size ((w.alloc o1).alloc (.cells c t)).drew w1) (j : Nat) :
    w1.cell? ⟨w.heap.size + 1, j, none⟩ = c[j]? ∧ w1.frozen? ⟨w.heap.size + 1, j, none⟩ = false := by
  rw [hb.cell (p := ⟨w.heap.size + 1, j, none⟩) (by simp), hb.frozen (p := ⟨w.heap.size + 1, j, none⟩) (by simp), World.cell?_drew]
  exact ⟨World.cell?_alloc_at _ _ _ _ (by simp), by rw [World.frozen?_drew]; exact World.frozen?_alloc_at _ _ _ _ (by simp)⟩

/-- The end of 'seenToVersion'. -/
theorem verRet_of {w w1 : World} {o1 o2 : Obj} {ga : Option Addr} {v : LVer} {wp : Option Addr} {x0 x1 x2 x3 : Value} (hb : Below ((w.alloc o1).alloc o2).drew.heap.size ((w.alloc o1).alloc o2).drew w1) (hrow : RowIn w1 ga v.rn v.row) (hnil : ga.isNone = v.ra.isNone)
    (hnew : 0 < v.rn → ((w.alloc o1).alloc o2).drew.heap.size ≤ blk ga) :
    VerRet w v wp (.returned (.agg #[.slice ga v.rn v.rn, .bool v.ghost, .pointer wp, .int .u64 v.com])) ((((w1.setCell ⟨w.heap.size + 1, 0, none⟩ x0).setCell ⟨w.heap.size + 1, 1, none⟩ x1).setCell ⟨w.heap.size + 1, 2, none⟩ x2).setCell ⟨w.heap.size + 1, 3, none⟩ x3) := by
  have hs : ((w.alloc o1).alloc o2).drew.heap.size = w.heap.size + 2 := by simp
  rw [hs] at hnew
  have hb1 : Below w.heap.size w w1 := (below2 w o1 o2).drew.trans (hb.mono (by rw [hs]; omega))
  have ne : 0 < v.rn → blk ga ≠ w.heap.size + 1 := fun h => by have := hnew h; omega
  exact ⟨ga, rfl, below_set (below_set (below_set (below_set hb1 _ _ (by omega) _) _ _ (by omega) _) _ _ (by omega) _) _ _ (by omega) _, (((hrow.setOther ne _ _).setOther ne _ _).setOther ne _ _).setOther ne _ _, hnil, fun h => by have := hnew h; omega⟩

set_option maxRecDepth 100000 in
set_option maxHeartbeats 4000000 in
theorem toVersion (v : LVer) (oa : Option Addr) (n : Nat) (p : Nat → Nat) (S : Nat → Bool) (w : World) (hr : RowIn w v.ra v.rn v.row) (hn : v.rn ≤ 1048576) (hz : v.ra = none → v.rn = 0 ∧ v.rc = 0) (ho : OwnersIn w oa n p S) :
    Calls Try.prog 17 #[.agg #[.slice v.ra v.rn v.rc, .bool v.ghost, .int .i64 v.writer, .int .u64 v.com], .slice oa n n] w (VerRet w v (wptr p n v.writer)) := by
  have HR : Hid (RowIn w v.ra v.rn v.row) := hr
  have HZ : Hid (v.ra = none → v.rn = 0 ∧ v.rc = 0) := hz
  have HO : Hid (OwnersIn w oa n p S) := ho
  clear hr hz ho
  cases g1 : own v.writer n
  · have HP : Hid (wptr p n v.writer = none) := by simp [Hid, wptr, g1]
    go_enter Try.func17, Try.ntmps17
    go_wp2_with (go_at_call 9; refine (isOwner _ _ _).mono ?_; rintro e w' ⟨rfl, rfl⟩)
    go_region_held3 (fun w' => w'.cell? ⟨w.heap.size, 0, none⟩ = some (.slice v.ra v.rn v.rc) ∧ w'.cell? ⟨w.heap.size, 1, none⟩ = some (.bool v.ghost) ∧ w'.cell? ⟨w.heap.size, 3, none⟩ = some (.int .u64 v.com)) (go_keep)
      (first | (go_at_call 21; refine (toRow v.ra v.rn v.rc v.row _ ?_ hn HZ.out).mono ?_; exact HR.out.below (below2 w _ _).drew; rintro e w1 ⟨ga, rfl, hb, hrow, hnil, hnew⟩; have q0 : w1.cell? ⟨w.heap.size, 0, none⟩ = some (.slice v.ra v.rn v.rc) := keep_first hb 0; have q1 : w1.cell? ⟨w.heap.size, 1, none⟩ = some (.bool v.ghost) := keep_first hb 1; have q3 : w1.cell? ⟨w.heap.size, 3, none⟩ = some (.int .u64 v.com) := keep_first hb 3; have r0 : w1.cell? ⟨w.heap.size + 1, 0, none⟩ = some (.slice none 0 0) := (keep_second hb 0).1; have r1 : w1.cell? ⟨w.heap.size + 1, 1, none⟩ = some (.bool false) := (keep_second hb 1).1; have r2 : w1.cell? ⟨w.heap.size + 1, 2, none⟩ = some (.pointer none) := (keep_second hb 2).1; have r3 : w1.cell? ⟨w.heap.size + 1, 3, none⟩ = some (.int .u64 0) := (keep_second hb 3).1; have s0 := (keep_second hb 0).2; have s1 := (keep_second hb 1).2; have s2 := (keep_second hb 2).2; have s3 := (keep_second hb 3).2))
    rename_i hh
    clear hh
    go_wp2
    exact bodyPost_ret (v := .agg #[.slice ga v.rn v.rn, .bool v.ghost, .pointer none, .int .u64 v.com]) (by simp [results, Try.results17, go_sem, r0, r1, r2, r3]) rfl (HP.out ▸ verRet_of hb hrow hnil hnew)
  · have HP : Hid (wptr p n v.writer = some ⟨p v.writer.toNat, 0, none⟩) := by simp [Hid, wptr, g1]
    have hbd : 0 ≤ v.writer ∧ v.writer < n := by simpa [own] using g1
    obtain ⟨hb0, hb1⟩ := hbd
    have hidx := fun w => run_index_int (P := Try.prog) (c := n) Try.underlying32 size35 HO.out.pl hb0 hb1 w
    have hco := HO.out.c0 v.writer.toNat (by omega)
    have hlo := HO.out.lt v.writer.toNat (by omega)
    go_enter Try.func17, Try.ntmps17
    go_wp2_with (go_at_call 9; refine (isOwner _ _ _).mono ?_; rintro e w' ⟨rfl, rfl⟩)
    go_region_held3 (fun w' => w'.cell? ⟨w.heap.size, 0, none⟩ = some (.slice v.ra v.rn v.rc) ∧ w'.cell? ⟨w.heap.size, 1, none⟩ = some (.bool v.ghost) ∧ w'.cell? ⟨w.heap.size, 3, none⟩ = some (.int .u64 v.com)) (go_keep)
      (first | (go_at_call 21; refine (toRow v.ra v.rn v.rc v.row _ ?_ hn HZ.out).mono ?_; exact HR.out.below (below2 w _ _).drew; rintro e w1 ⟨ga, rfl, hb, hrow, hnil, hnew⟩; have q0 : w1.cell? ⟨w.heap.size, 0, none⟩ = some (.slice v.ra v.rn v.rc) := keep_first hb 0; have q1 : w1.cell? ⟨w.heap.size, 1, none⟩ = some (.bool v.ghost) := keep_first hb 1; have q3 : w1.cell? ⟨w.heap.size, 3, none⟩ = some (.int .u64 v.com) := keep_first hb 3; have r0 : w1.cell? ⟨w.heap.size + 1, 0, none⟩ = some (.slice none 0 0) := (keep_second hb 0).1; have r1 : w1.cell? ⟨w.heap.size + 1, 1, none⟩ = some (.bool false) := (keep_second hb 1).1; have r2 : w1.cell? ⟨w.heap.size + 1, 2, none⟩ = some (.pointer none) := (keep_second hb 2).1; have r3 : w1.cell? ⟨w.heap.size + 1, 3, none⟩ = some (.int .u64 0) := (keep_second hb 3).1; have s0 := (keep_second hb 0).2; have s1 := (keep_second hb 1).2; have s2 := (keep_second hb 2).2; have s3 := (keep_second hb 3).2))
    rename_i hh
    clear hh
    go_wp2
    exact bodyPost_ret (v := .agg #[.slice ga v.rn v.rn, .bool v.ghost, .pointer (some ⟨p v.writer.toNat, 0, none⟩), .int .u64 v.com]) (by simp [results, Try.results17, go_sem, r0, r1, r2, r3]) rfl (HP.out ▸ verRet_of hb hrow hnil hnew)
end Go.Proofs.Qxb6628366a
