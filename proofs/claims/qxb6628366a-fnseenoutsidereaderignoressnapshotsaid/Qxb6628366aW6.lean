import Derived.Test.Qxb6628366aFam
import Derived.BigRegion
namespace Go.Proofs.Qxb6628366a
open Go.RowKit

/-- What 'seenToRow' hands back: a row of its own, the same values; nil just where it was. -/
def RowRet (w : World) (a : Option Addr) (n : Nat) (f : Nat → LV) (e : Ending) (w' : World) : Prop :=
  ∃ ga, e = .returned (.slice ga n n) ∧ Below w.heap.size w w' ∧ RowIn w' ga n f ∧ ga.isNone = a.isNone ∧ (0 < n → w.heap.size ≤ blk ga)

def UpTo (w : World) (ga : Option Addr) (f : Nat → LV) (k : Nat) : Prop :=
  (∀ i, i < k → w.cell? ⟨blk ga, ofs ga + i * 3, none⟩ = some (.bool (f i).valid)) ∧ (∀ i, i < k → w.cell? ⟨blk ga, ofs ga + i * 3 + 1, none⟩ = some (.int .i64 (f i).n)) ∧
  (∀ i, i < k → w.cell? ⟨blk ga, ofs ga + i * 3 + 2, none⟩ = some (.string (f i).s))
theorem upTo_step {w wr : World} {ga : Option Addr} {n k : Nat} {f : Nat → LV} (hb : Below w.heap.size w wr) (hf : Fam wr ga (n * 3)) (hu : UpTo wr ga f k) (hk : k < n) (hg : w.heap.size ≤ blk ga) :
    Below w.heap.size w (((wr.setCell ⟨blk ga, ofs ga + k * 3, none⟩ (.bool (f k).valid)).setCell ⟨blk ga, ofs ga + k * 3 + 1, none⟩ (.int .i64 (f k).n)).setCell ⟨blk ga, ofs ga + k * 3 + 2, none⟩ (.string (f k).s)).drew ∧
    Fam (((wr.setCell ⟨blk ga, ofs ga + k * 3, none⟩ (.bool (f k).valid)).setCell ⟨blk ga, ofs ga + k * 3 + 1, none⟩ (.int .i64 (f k).n)).setCell ⟨blk ga, ofs ga + k * 3 + 2, none⟩ (.string (f k).s)).drew ga (n * 3) ∧
    UpTo (((wr.setCell ⟨blk ga, ofs ga + k * 3, none⟩ (.bool (f k).valid)).setCell ⟨blk ga, ofs ga + k * 3 + 1, none⟩ (.int .i64 (f k).n)).setCell ⟨blk ga, ofs ga + k * 3 + 2, none⟩ (.string (f k).s)).drew ga f (k + 1) := by
  have h0 := hf.set (k * 3) (.bool (f k).valid)
  have h1 := h0.set (k * 3 + 1) (.int .i64 (f k).n)
  have h2 := h1.set (k * 3 + 2) (.string (f k).s)
  have g0 := hf.got (k * 3) (by omega) (.bool (f k).valid)
  have g1 := h0.got (k * 3 + 1) (by omega) (.int .i64 (f k).n)
  have g2 := h1.got (k * 3 + 2) (by omega) (.string (f k).s)
  simp only [← Nat.add_assoc] at h1 h2 g1 g2
  refine ⟨(below_set (below_set (below_set hb _ _ hg _) _ _ hg _) _ _ hg _).drew, h2.drew, fun i hi => ?_, fun i hi => ?_, fun i hi => ?_⟩ <;> rw [World.cell?_drew]
  · rw [cell_set_ne _ (by intro e; injection e; omega), cell_set_ne _ (by intro e; injection e; omega)]
    by_cases e : i = k
    · subst e; exact g0
    · rw [cell_set_ne _ (by intro e; injection e; omega)]; exact hu.1 i (by omega)
  · rw [cell_set_ne _ (by intro e; injection e; omega)]
    by_cases e : i = k
    · subst e; exact g1
    · rw [cell_set_ne _ (by intro e; injection e; omega), cell_set_ne _ (by intro e; injection e; omega)]; exact hu.2.1 i (by omega)
  · by_cases e : i = k
    · subst e; exact g2
    · rw [cell_set_ne _ (by intro e; injection e; omega), cell_set_ne _ (by intro e; injection e; omega), cell_set_ne _ (by intro e; injection e; omega)]; exact hu.2.2 i (by omega)
theorem size57 (w : World) : (sizeOf 57).run Try.prog w = .ok 3 w := by kernel_rfl
theorem RowIn.setOther {w : World} {a : Option Addr} {n : Nat} {f : Nat → LV} (h : RowIn w a n f) {q : Nat} (hq : 0 < n → blk a ≠ q) (o : Nat) (u : Value) : RowIn (w.setCell ⟨q, o, none⟩ u) a n f :=
  ⟨h.pl, fun i hi => by rw [cell_set_ne _ (blk_ne (Ne.symm (hq (by omega))))]; exact h.c0 i hi, fun i hi => by rw [cell_set_ne _ (blk_ne (Ne.symm (hq (by omega))))]; exact h.c1 i hi, fun i hi => by rw [cell_set_ne _ (blk_ne (Ne.symm (hq (by omega))))]; exact h.c2 i hi⟩
theorem info57 : (Try.prog.info? 57).map (fun i => (i.zero, i.size, i.bytes)) = some (some (.agg #[.bool false, .int .i64 0, .string ⟨#[]⟩]), 3, 32) := by kernel_rfl
theorem make57 (n : Nat) (hn : n ≤ 1048576) (w : World) :
    (Instr.makeSlice 38 (.int .i64 (n : Int)) (.int .i64 (n : Int))).run Try.prog w = .ok (.slice (some ⟨w.heap.size, 0, none⟩) n n) (w.alloc (.cells (madeCells #[.bool false, .int .i64 0, .string ⟨#[]⟩] (n * 3)) 57)) := by
  obtain ⟨i, hi, h1, h2, h3⟩ := info_parts info57
  have := run_make (P := Try.prog) w 38 57 i _ Try.underlying38 hi h1 .i64 .i64 n n (by omega) (by omega) (by rw [h3]; omega) (by omega)
  rw [this, h2]
  rfl

theorem toRow_nil (f : Nat → LV) (w : World) : Calls Try.prog 21 #[.slice none 0 0] w (RowRet w none 0 f) := by
  have hn := fun w => Lib.run_eql_slice_nil (P := Try.prog) w 22 49 none 0 0 0 0 Try.underlying22
  go_enter Try.func21, Try.ntmps21
  go_wp2
  go_ret
  exact ⟨none, rfl, Below.refl _ _, ⟨fun h => by omega, fun i h => by omega, fun i h => by omega, fun i h => by omega⟩, rfl, fun h => by omega⟩

set_option maxRecDepth 100000 in
set_option maxHeartbeats 4000000 in
theorem toRow_some (a : Addr) (n c : Nat) (f : Nat → LV) (w : World) (hr : RowIn w (some a) n f) (hn : n ≤ 1048576) : Calls Try.prog 21 #[.slice (some a) n c] w (RowRet w (some a) n f) := by
  have hnil := fun w => Lib.run_eql_slice_nil (P := Try.prog) w 22 49 (some a) n c 0 0 Try.underlying22
  have hmk := make57 n hn w
  obtain ⟨ga, hga⟩ : ∃ ga, ga = some (⟨w.heap.size, 0, none⟩ : Addr) := ⟨_, rfl⟩
  rw [← hga] at hmk
  obtain ⟨sa, hsa⟩ : ∃ sa, sa = some a := ⟨_, rfl⟩
  rw [← hsa] at hr ⊢
  have HR : Hid (RowIn w sa n f) := hr
  have HG : Hid (ga = some (⟨w.heap.size, 0, none⟩ : Addr)) := hga
  rw [← hsa] at hnil
  have hnn : sa.isNone = false := by rw [hsa]; rfl
  clear hr hga hsa
  go_enter Try.func21, Try.ntmps21
  go_wp2
  go_loopw [4] (fun i wr => ∃ k : Nat, k ≤ n ∧ i = .int .i64 k ∧ Below w.heap.size w wr ∧ Fam wr ga (n * 3) ∧ UpTo wr ga f k) (fun i _ => n - (intOf i).toNat)
  case atStart => exact ⟨0, Nat.zero_le _, rfl, below1 _ _, Fam.made w ga _ _ _ HG.out, ⟨fun i h => by omega, fun i h => by omega, fun i h => by omega⟩⟩
  case round =>
    obtain ⟨k, hk, rfl, hb, hf, hu⟩ := hrel
    have HB : Hid (Below w.heap.size w wr) := hb
    have HF : Hid (Fam wr ga (n * 3)) := hf
    have HU : Hid (UpTo wr ga f k) := hu
    clear hb hf hu
    by_cases hlt : k < n
    · have hidx := fun w => run_index_at (P := Try.prog) (c := c) Try.underlying22 size49 HR.out.pl hlt w
      have hidg := fun w => run_index_at (P := Try.prog) (c := n) (a := ga) (n := n) Try.underlying38 size57 (fun _ => by rw [HG.out]; rfl) hlt w
      have s0 := cell_below HB.out (HR.out.c0 k hlt) (HR.out.lt k hlt)
      have s1 := cell_below HB.out (HR.out.c1 k hlt) (HR.out.lt k hlt)
      have s2 := cell_below HB.out (HR.out.c2 k hlt) (HR.out.lt k hlt)
      obtain ⟨v0, d0⟩ := HF.out.is (k * 3) (by omega)
      obtain ⟨v1, d1⟩ := HF.out.is (k * 3 + 1) (by omega)
      obtain ⟨v2, d2⟩ := HF.out.is (k * 3 + 2) (by omega)
      have f0 := HF.out.fr (k * 3) (by omega)
      have f1 := HF.out.fr (k * 3 + 1) (by omega)
      have f2 := HF.out.fr (k * 3 + 2) (by omega)
      rw [← Nat.add_assoc] at d1 d2 f1 f2
      go_wp2
      go_region
      go_wp2
      go_roundw
      case rel => exact ⟨k + 1, by omega, by go_num, upTo_step HB.out HF.out HU.out hlt (by rw [HG.out]; exact Nat.le_refl _)⟩
      case measure => simp [intOf]; omega
    · obtain rfl : k = n := by omega
      go_wp2
      go_ret
      exact ⟨ga, rfl, HB.out, ⟨fun _ => by rw [HG.out]; rfl, HU.out.1, HU.out.2.1, HU.out.2.2⟩, by rw [hnn, HG.out]; rfl, fun _ => by rw [HG.out]; exact Nat.le_refl _⟩
end Go.Proofs.Qxb6628366a
