import Derived.Test.Qxb6628366aW7
namespace Go.Proofs.Qxb6628366a
open Go.RowKit

theorem newEntry (ga : Option Addr) (n c : Nat) (g : Bool) (wp : Option Addr) (m : Int) (va : Option Addr) (vn vc : Nat) (w : World) :
    Calls Try.prog 18 #[.agg #[.slice ga n c, .bool g, .pointer wp, .int .u64 m], .slice va vn vc] w fun e w' =>
      e = .returned (.pointer (some ⟨w.heap.size + 1, 0, none⟩)) ∧ w' = (w.alloc (.cells #[.slice ga n c, .bool g, .pointer wp, .int .u64 m] 40)).alloc (.cells #[.slice ga n c, .bool g, .pointer wp, .int .u64 m, .slice va vn vc] 55) := by
  go_enter Try.func18, Try.ntmps18
  go_wp2
  go_ret
  exact ⟨rfl, rfl⟩

theorem info35 : (Try.prog.info? 35).map (fun i => (i.zero, i.size, i.bytes)) = some (some (.pointer none), 1, 8) := by kernel_rfl
theorem make35 (n : Nat) (hn : n ≤ 1048576) (w : World) :
    (Instr.makeSlice 32 (.int .i64 (n : Int)) (.int .i64 (n : Int))).run Try.prog w = .ok (.slice (some ⟨w.heap.size, 0, none⟩) n n) (w.alloc (.cells (madeCells #[.pointer none] n) 35)) := by
  obtain ⟨i, hi, h1, h2, h3⟩ := info_parts info35
  have := run_make (P := Try.prog) w 32 35 i _ Try.underlying32 hi h1 .i64 .i64 n n (by omega) (by omega) (by rw [h3]; omega) (by omega)
  rw [this, h2, Nat.mul_one]
  rfl
theorem info40 : (Try.prog.info? 40).map (fun i => (i.zero, i.size, i.bytes)) = some (some (.agg #[.slice none 0 0, .bool false, .pointer none, .int .u64 0]), 4, 48) := by kernel_rfl
theorem make40 (n : Nat) (hn : n ≤ 1048576) (w : World) :
    (Instr.makeSlice 51 (.int .i64 (n : Int)) (.int .i64 (n : Int))).run Try.prog w = .ok (.slice (some ⟨w.heap.size, 0, none⟩) n n) (w.alloc (.cells (madeCells #[.slice none 0 0, .bool false, .pointer none, .int .u64 0] (n * 4)) 40)) := by
  obtain ⟨i, hi, h1, h2, h3⟩ := info_parts info40
  have := run_make (P := Try.prog) w 51 40 i _ Try.underlying51 hi h1 .i64 .i64 n n (by omega) (by omega) (by rw [h3]; omega) (by omega)
  rw [this, h2]
  rfl
theorem size40 (w : World) : (sizeOf 40).run Try.prog w = .ok 4 w := by kernel_rfl

/-- The owners so far: W is the world ahead of the row's making; owner i lies in block W.heap.size + 1 + i. -/
structure Own1 (W wr : World) (oa : Option Addr) (sn : Nat) (S : Nat → Bool) (k : Nat) : Prop where
  bel : Below W.heap.size W wr
  size : wr.heap.size = W.heap.size + 1 + k
  fam : Fam wr oa sn
  c0 : ∀ i, i < k → wr.cell? ⟨blk oa, ofs oa + i, none⟩ = some (.pointer (some ⟨W.heap.size + 1 + i, 0, none⟩))
  bl : ∀ i, i < k → wr.heap[W.heap.size + 1 + i]? = some (.cells #[.int .u32 (S i).toInt] 64 (0, 0))

theorem Own1.start (W : World) (oa : Option Addr) (sn : Nat) (S : Nat → Bool) (z : Array Value) (t : TypeId) (h : oa = some ⟨W.heap.size, 0, none⟩) : Own1 W (W.alloc (.cells (madeCells z sn) t)) oa sn S 0 :=
  ⟨below1 _ _, by simp, Fam.made W oa _ _ _ h, fun i hi => by omega, fun i hi => by omega⟩

theorem Own1.step {W wr : World} {oa : Option Addr} {sn : Nat} {S : Nat → Bool} {k : Nat} (h : Own1 W wr oa sn S k) (hk : k < sn) (ho : oa = some ⟨W.heap.size, 0, none⟩) (o : Obj) (ho' : o = .cells #[.int .u32 (S k).toInt] 64) :
    Own1 W ((wr.setCell ⟨blk oa, ofs oa + k, none⟩ (.pointer (some ⟨wr.heap.size, 0, none⟩))).alloc o).drew oa sn S (k + 1) := by
  have e1 : blk oa = W.heap.size := by rw [ho]; rfl
  have hs := h.size
  have hf := h.fam.set k (.pointer (some ⟨wr.heap.size, 0, none⟩))
  have hz : (wr.setCell ⟨blk oa, ofs oa + k, none⟩ (.pointer (some ⟨wr.heap.size, 0, none⟩))).heap.size = wr.heap.size := by simp [World.setCell]
  refine ⟨((below_set h.bel _ _ (by omega) _).alloc (by omega) _).drew, by simp [World.setCell]; omega, (hf.below (below1 _ _)).drew, fun i hi => ?_, fun i hi => ?_⟩
  · rw [World.cell?_drew, World.cell?_alloc_past _ _ _ (by omega)]
    by_cases e : i = k
    · subst e; rw [h.fam.got i hk, hs]
    · rw [cell_set_ne _ (at_ne (by omega))]; exact h.c0 i (by omega)
  · by_cases e : i = k
    · subst e
      show ((wr.setCell ⟨blk oa, ofs oa + i, none⟩ (.pointer (some ⟨wr.heap.size, 0, none⟩))).heap.push o)[W.heap.size + 1 + i]? = _
      rw [Array.getElem?_push, hz, hs, if_pos rfl, ho']
    · show ((wr.setCell ⟨blk oa, ofs oa + k, none⟩ (.pointer (some ⟨wr.heap.size, 0, none⟩))).heap.push o)[W.heap.size + 1 + i]? = _
      rw [Array.getElem?_push, hz, hs, if_neg (by omega), Below.heap_setCell _ _ _ _ (by show _ ≠ blk oa; omega)]
      exact h.bl i (by omega)

theorem Own1.done {W wr : World} {oa : Option Addr} {sn : Nat} {S : Nat → Bool} (h : Own1 W wr oa sn S sn) (ho : oa = some ⟨W.heap.size, 0, none⟩) : OwnersIn wr oa sn (fun i => W.heap.size + 1 + i) S :=
  ⟨fun _ => by rw [ho]; rfl, h.c0, h.bl, fun j _ i hi => by omega⟩
end Go.Proofs.Qxb6628366a
