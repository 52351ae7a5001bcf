import Derived.Test.Qxb6628366aW12
namespace Go.Proofs.Qxb6628366a
open Go.RowKit

theorem isZero (w : World) : Calls Try.prog 12 #[.agg #[.slice none 0 0, .bool false, .pointer none, .int .u64 0]] w (Ret1 w (.bool true)) := by
  have hn := fun w => Lib.run_eql_slice_nil (P := Try.prog) w 38 57 none 0 0 0 0 Try.underlying38
  go_enter Try.func12, Try.ntmps12
  go_wp2
  go_ret
  exact ⟨rfl, below1 _ _⟩

theorem neq_ptr_same {P : Program} {t e : TypeId} {j : TypeInfo} (h : P.underlying t = some (.pointer e)) (he : P.info? e = some j) (q : Option Addr) (w : World) : (binOp .neq t (.pointer q) (.pointer q)).run P w = .ok (.bool false) w := by
  have h' : ∀ d : Nat, (Op.equalIn (d + 1) t (.pointer q) (.pointer q)).run P w = .ok true w := fun d => by
    cases q with
    | none => simp [Op.equalIn, run_underlying h]
    | some a => simp [Op.equalIn, run_underlying h, sizeOf, typeInfo, he, run_sameAddr_same]
  simp only [binOp]
  simp [Op.equal, Op.maxDepth, h' 9999]

set_option maxRecDepth 100000 in
set_option maxHeartbeats 4000000 in
theorem same (x : LVer) (xa : Option Addr) (oa : Option Addr) (n : Nat) (p : Nat → Nat) (S : Nat → Bool) (w : World) (hx : RowIn w xa x.rn x.row) (hr : RowIn w x.ra x.rn x.row) (hnil : xa.isNone = x.ra.isNone) (ho : OwnersIn w oa n p S) (bx : x.rn ≤ 1048576) :
    Calls Try.prog 13 #[.agg #[.slice xa x.rn x.rn, .bool x.ghost, .pointer (wptr p n x.writer), .int .u64 x.com], .agg #[.slice x.ra x.rn x.rc, .bool x.ghost, .int .i64 x.writer, .int .u64 x.com], .slice oa n n] w (Ret1 w (.bool true)) := by
  have HX : Hid (RowIn w xa x.rn x.row) := hx
  have HR : Hid (RowIn w x.ra x.rn x.row) := hr
  have HO : Hid (OwnersIn w oa n p S) := ho
  clear hx hr ho
  have hn1 := fun w => Lib.run_eql_slice_nil (P := Try.prog) w 38 57 xa x.rn x.rn 0 0 Try.underlying38
  have hn2 := fun w => Lib.run_eql_slice_nil (P := Try.prog) w 22 49 x.ra x.rn x.rc 0 0 Try.underlying22
  obtain ⟨d, hd, -⟩ := info64
  have hne := fun w => neq_ptr_same (P := Try.prog) Try.underlying35 hd (wptr p n x.writer) w
  clear hd
  cases g1 : own x.writer n
  · have hp : wptr p n x.writer = none := by simp [wptr, g1]
    rw [hp] at hne ⊢
    clear hp
    go_enter Try.func13, Try.ntmps13
    go_wp2_with (go_at_call 9; refine (isOwner _ _ _).mono ?_; rintro e w' ⟨rfl, rfl⟩)
    go_loopw [8] (fun i wr => ∃ k : Nat, k ≤ x.rn ∧ i = .int .i64 k ∧ Below w.heap.size w wr ∧ w.heap.size + 1 < wr.heap.size ∧ wr.cell? ⟨w.heap.size, 0, none⟩ = some (.slice xa x.rn x.rn) ∧ wr.cell? ⟨w.heap.size + 1, 0, none⟩ = some (.slice x.ra x.rn x.rc)) (fun i _ => x.rn - (intOf i).toNat)
    case atStart => exact ⟨0, Nat.zero_le _, rfl, below2 _ _ _, by simp, by simp, by simp⟩
    case round =>
      obtain ⟨k, hk, rfl, hb, hz, b0, b1⟩ := hrel
      have HB : Hid (Below w.heap.size w wr) := hb
      clear hb
      have hz0 : w.heap.size < wr.heap.size := by omega
      by_cases hlt : k < x.rn
      · have hi1 := fun w => run_index_at (P := Try.prog) (c := x.rn) Try.underlying38 size57 HX.out.pl hlt w
        have hi2 := fun w => run_index_at (P := Try.prog) (c := x.rc) Try.underlying22 size49 HR.out.pl hlt w
        have lx : blk xa < wr.heap.size := by have := HX.out.lt k hlt; omega
        have lr : blk x.ra < wr.heap.size := by have := HR.out.lt k hlt; omega
        have x0 := cell_below HB.out (HX.out.c0 k hlt) (HX.out.lt k hlt)
        have x1 := cell_below HB.out (HX.out.c1 k hlt) (HX.out.lt k hlt)
        have x2 := cell_below HB.out (HX.out.c2 k hlt) (HX.out.lt k hlt)
        have y0 := cell_below HB.out (HR.out.c0 k hlt) (HR.out.lt k hlt)
        have y1 := cell_below HB.out (HR.out.c1 k hlt) (HR.out.lt k hlt)
        have y2 := cell_below HB.out (HR.out.c2 k hlt) (HR.out.lt k hlt)
        go_wp2
        go_roundw
        case rel => exact ⟨k + 1, by omega, by go_num, HB.out.trans ((below2 _ _ _).mono (by omega)), by simp; omega, by rw [World.cell?_alloc_past _ _ _ (by simp; omega), World.cell?_alloc_past _ _ _ (by omega)]; exact b0, by rw [World.cell?_alloc_past _ _ _ (by simp; omega), World.cell?_alloc_past _ _ _ (by omega)]; exact b1⟩
        case measure => simp [intOf]; omega
      · go_wp2
        go_ret
        exact ⟨rfl, HB.out⟩
  · have hp : wptr p n x.writer = some ⟨p x.writer.toNat, 0, none⟩ := by simp [wptr, g1]
    rw [hp] at hne ⊢
    clear hp
    have hbd : 0 ≤ x.writer ∧ x.writer < n := by simpa [own] using g1
    obtain ⟨hb0, hb1⟩ := hbd
    have hidx := fun w => run_index_int (P := Try.prog) (c := n) Try.underlying32 size35 HO.out.pl hb0 hb1 w
    have hco := HO.out.c0 x.writer.toNat (by omega)
    have hlo := HO.out.lt x.writer.toNat (by omega)
    have hlo1 : blk oa < w.heap.size + 1 := by omega
    go_enter Try.func13, Try.ntmps13
    go_wp2_with (go_at_call 9; refine (isOwner _ _ _).mono ?_; rintro e w' ⟨rfl, rfl⟩)
    go_loopw [8] (fun i wr => ∃ k : Nat, k ≤ x.rn ∧ i = .int .i64 k ∧ Below w.heap.size w wr ∧ w.heap.size + 1 < wr.heap.size ∧ wr.cell? ⟨w.heap.size, 0, none⟩ = some (.slice xa x.rn x.rn) ∧ wr.cell? ⟨w.heap.size + 1, 0, none⟩ = some (.slice x.ra x.rn x.rc)) (fun i _ => x.rn - (intOf i).toNat)
    case atStart => exact ⟨0, Nat.zero_le _, rfl, below2 _ _ _, by simp, by simp, by simp⟩
    case round =>
      obtain ⟨k, hk, rfl, hb, hz, b0, b1⟩ := hrel
      have HB : Hid (Below w.heap.size w wr) := hb
      clear hb
      have hz0 : w.heap.size < wr.heap.size := by omega
      by_cases hlt : k < x.rn
      · have hi1 := fun w => run_index_at (P := Try.prog) (c := x.rn) Try.underlying38 size57 HX.out.pl hlt w
        have hi2 := fun w => run_index_at (P := Try.prog) (c := x.rc) Try.underlying22 size49 HR.out.pl hlt w
        have lx : blk xa < wr.heap.size := by have := HX.out.lt k hlt; omega
        have lr : blk x.ra < wr.heap.size := by have := HR.out.lt k hlt; omega
        have x0 := cell_below HB.out (HX.out.c0 k hlt) (HX.out.lt k hlt)
        have x1 := cell_below HB.out (HX.out.c1 k hlt) (HX.out.lt k hlt)
        have x2 := cell_below HB.out (HX.out.c2 k hlt) (HX.out.lt k hlt)
        have y0 := cell_below HB.out (HR.out.c0 k hlt) (HR.out.lt k hlt)
        have y1 := cell_below HB.out (HR.out.c1 k hlt) (HR.out.lt k hlt)
        have y2 := cell_below HB.out (HR.out.c2 k hlt) (HR.out.lt k hlt)
        go_wp2
        go_roundw
        case rel => exact ⟨k + 1, by omega, by go_num, HB.out.trans ((below2 _ _ _).mono (by omega)), by simp; omega, by rw [World.cell?_alloc_past _ _ _ (by simp; omega), World.cell?_alloc_past _ _ _ (by omega)]; exact b0, by rw [World.cell?_alloc_past _ _ _ (by simp; omega), World.cell?_alloc_past _ _ _ (by omega)]; exact b1⟩
        case measure => simp [intOf]; omega
      · go_wp2
        go_ret
        exact ⟨rfl, HB.out⟩
end Go.Proofs.Qxb6628366a
