import Derived.Test.Qxb6628443aBut
namespace Go.Proofs.Qxb6628443a
open Go.RowKit

/-- What lies in memory ahead of the overwriting of the first snapshot. -/
structure MidB (lo : Nat) (w wc : World) (s1 : Nat) (xr : Option Addr) (rn : Nat) (R : Nat → RI) (xb : Option Addr) (bn : Nat) (B : Nat → BI) : Prop where
  bel : Below w.heap.size w wc
  c2 : wc.cell? ⟨s1, 2, none⟩ = some (.slice xr rn rn)
  c4 : wc.cell? ⟨s1, 4, none⟩ = some (.slice xb bn bn)
  r : Recs wc xr 3 rn (fun i => (R i).c)
  fr : Fam wc xr (rn * 3)
  b : Recs wc xb 3 bn (fun i => (B i).c)
  fb : Fam wc xb (bn * 3)
  ro : 0 < rn → w.heap.size ≤ blk xr ∧ blk xr < lo ∧ blk xr ≠ s1
  bo : 0 < bn → w.heap.size ≤ blk xb ∧ blk xb < lo ∧ blk xb ≠ s1
  rb : 0 < rn → 0 < bn → blk xb ≠ blk xr
  kr : ∀ i, i < rn → (R i).key.size ≤ 1048576
  kb : ∀ i, i < bn → (B i).name.size ≤ 1048576

theorem relTok {wr : World} {a : Option Addr} {n k : Nat} {R2 : Nat → RI} (h : Recs wr a 3 n (fun i => (R2 i).c)) (hk : k < n) (V : Int) :
    ∃ R3 : Nat → RI, (∀ i, (R3 i).key = (R2 i).key) ∧ Recs (wr.setCell ⟨blk a, ofs a + k * 3, none⟩ (.int .u64 V)) a 3 n (fun i => (R3 i).c) := by
  refine ⟨fun i => if i = k then { R2 i with token := V } else R2 i, fun i => ?_, h.set (j := 0) hk (by omega) (by simp [RI.c]) (fun i hi m hm e => ?_)⟩
  · by_cases g : i = k <;> simp [g]
  · by_cases g : i = k
    · subst g
      match m, hm with
      | 0, _ => exact absurd ⟨rfl, rfl⟩ e
      | 1, _ => simp [RI.c]
      | 2, _ => simp [RI.c]
    · simp [g]
theorem relKey {wr : World} {a : Option Addr} {n k : Nat} {R2 : Nat → RI} (h : Recs wr a 3 n (fun i => (R2 i).c)) (hk : k < n) (V : ByteArray) :
    ∃ R3 : Nat → RI, (∀ i, (R3 i).key = if i = k then V else (R2 i).key) ∧ Recs (wr.setCell ⟨blk a, ofs a + k * 3 + 1, none⟩ (.string V)) a 3 n (fun i => (R3 i).c) := by
  refine ⟨fun i => if i = k then { R2 i with key := V } else R2 i, fun i => ?_, h.set (j := 1) hk (by omega) (by simp [RI.c]) (fun i hi m hm e => ?_)⟩
  · by_cases g : i = k <;> simp [g]
  · by_cases g : i = k
    · subst g
      match m, hm with
      | 0, _ => simp [RI.c]
      | 1, _ => exact absurd ⟨rfl, rfl⟩ e
      | 2, _ => simp [RI.c]
    · simp [g]
theorem relAt {wr : World} {a : Option Addr} {n k : Nat} {R2 : Nat → RI} (h : Recs wr a 3 n (fun i => (R2 i).c)) (hk : k < n) (V : Int) :
    ∃ R3 : Nat → RI, (∀ i, (R3 i).key = (R2 i).key) ∧ Recs (wr.setCell ⟨blk a, ofs a + k * 3 + 2, none⟩ (.int .i64 V)) a 3 n (fun i => (R3 i).c) := by
  refine ⟨fun i => if i = k then { R2 i with at_ := V } else R2 i, fun i => ?_, h.set (j := 2) hk (by omega) (by simp [RI.c]) (fun i hi m hm e => ?_)⟩
  · by_cases g : i = k <;> simp [g]
  · by_cases g : i = k
    · subst g
      match m, hm with
      | 0, _ => simp [RI.c]
      | 1, _ => simp [RI.c]
      | 2, _ => exact absurd ⟨rfl, rfl⟩ e
    · simp [g]
theorem budName {wr : World} {a : Option Addr} {n k : Nat} {R2 : Nat → BI} (h : Recs wr a 3 n (fun i => (R2 i).c)) (hk : k < n) (V : ByteArray) :
    ∃ R3 : Nat → BI, (∀ i, (R3 i).name = if i = k then V else (R2 i).name) ∧ Recs (wr.setCell ⟨blk a, ofs a + k * 3, none⟩ (.string V)) a 3 n (fun i => (R3 i).c) := by
  refine ⟨fun i => if i = k then { R2 i with name := V } else R2 i, fun i => ?_, h.set (j := 0) hk (by omega) (by simp [BI.c]) (fun i hi m hm e => ?_)⟩
  · by_cases g : i = k <;> simp [g]
  · by_cases g : i = k
    · subst g
      match m, hm with
      | 0, _ => exact absurd ⟨rfl, rfl⟩ e
      | 1, _ => simp [BI.c]
      | 2, _ => simp [BI.c]
    · simp [g]
theorem budUnits {wr : World} {a : Option Addr} {n k : Nat} {R2 : Nat → BI} (h : Recs wr a 3 n (fun i => (R2 i).c)) (hk : k < n) (V : Int) :
    ∃ R3 : Nat → BI, (∀ i, (R3 i).name = (R2 i).name) ∧ Recs (wr.setCell ⟨blk a, ofs a + k * 3 + 1, none⟩ (.int .u64 V)) a 3 n (fun i => (R3 i).c) := by
  refine ⟨fun i => if i = k then { R2 i with units := V } else R2 i, fun i => ?_, h.set (j := 1) hk (by omega) (by simp [BI.c]) (fun i hi m hm e => ?_)⟩
  · by_cases g : i = k <;> simp [g]
  · by_cases g : i = k
    · subst g
      match m, hm with
      | 0, _ => simp [BI.c]
      | 1, _ => exact absurd ⟨rfl, rfl⟩ e
      | 2, _ => simp [BI.c]
    · simp [g]
theorem budGr {wr : World} {a : Option Addr} {n k : Nat} {R2 : Nat → BI} (h : Recs wr a 3 n (fun i => (R2 i).c)) (hk : k < n) (V : Int) :
    ∃ R3 : Nat → BI, (∀ i, (R3 i).name = (R2 i).name ∧ (R3 i).units = (R2 i).units) ∧ Recs (wr.setCell ⟨blk a, ofs a + k * 3 + 2, none⟩ (.int .u64 V)) a 3 n (fun i => (R3 i).c) := by
  refine ⟨fun i => if i = k then { R2 i with granted := V } else R2 i, fun i => ?_, h.set (j := 2) hk (by omega) (by simp [BI.c]) (fun i hi m hm e => ?_)⟩
  · by_cases g : i = k <;> simp [g]
  · by_cases g : i = k
    · subst g
      match m, hm with
      | 0, _ => simp [BI.c]
      | 1, _ => simp [BI.c]
      | 2, _ => exact absurd ⟨rfl, rfl⟩ e
    · simp [g]
theorem bang_size (s : ByteArray) : (s ++ (⟨#[33]⟩ : ByteArray)).size = s.size + 1 := by simp [ByteArray.size_append]; rfl
end Go.Proofs.Qxb6628443a
