import Derived.Test.Qxb6628443aMem
namespace Go.Proofs.Qxb6628443a
open Go.RowKit

set_option maxHeartbeats 2000000 in
theorem relsAre (ga : Option Addr) (n gc : Nat) (ra : Option Addr) (rc : Nat) (R : Nat → RI) (w : World) (hg : Recs w ga 3 n (fun i => (R i).c)) (hr : Recs w ra 3 n (fun i => (R i).c)) (hnn : ga.isNone = ra.isNone) (hn : n ≤ 1048576) :
    Calls Try.prog 11 #[.slice ga n gc, .slice ra n rc] w (Ret1 w (.bool true)) := by
  have HG := hide hg
  have HR := hide hr
  clear hg hr
  have n1 := fun w => Lib.run_eql_slice_nil (P := Try.prog) w 30 69 ga n gc 0 0 Try.underlying30
  have n2 := fun w => Lib.run_eql_slice_nil (P := Try.prog) w 24 71 ra n rc 0 0 Try.underlying24
  rw [hnn] at n1
  clear hnn
  cases hz : ra.isNone
  all_goals
    rw [hz] at n1 n2
    clear hz
    go_enter Try.func11, Try.ntmps11
    go_wp2
    clear n1 n2
    go_loopw [5] (fun i wr => ∃ k : Nat, k ≤ n ∧ i = .int .i64 k ∧ Below w.heap.size w wr) (fun i _ => n - (intOf i).toNat)
    case atStart => exact ⟨0, Nat.zero_le _, rfl, Below.refl _ _⟩
    case round =>
      obtain ⟨k, hk, rfl, hb⟩ := hrel
      have HB := hide hb
      clear hb
      by_cases hlt : k < n
      · have hidx := fun w => run_index_at (P := Try.prog) (c := gc) Try.underlying30 size69 HG.out.pl hlt w
        have hidi := fun w => run_index_at (P := Try.prog) (c := rc) Try.underlying24 size71 HR.out.pl hlt w
        have g0 : w.cell? ⟨blk ga, ofs ga + k * 3, none⟩ = some (.int .u64 (R k).token) := HG.out.c k hlt 0 (by omega)
        have g1 : w.cell? ⟨blk ga, ofs ga + k * 3 + 1, none⟩ = some (.string (R k).key) := HG.out.c k hlt 1 (by omega)
        have g2 : w.cell? ⟨blk ga, ofs ga + k * 3 + 2, none⟩ = some (.int .i64 (R k).at_) := HG.out.c k hlt 2 (by omega)
        have r0 : w.cell? ⟨blk ra, ofs ra + k * 3, none⟩ = some (.int .u64 (R k).token) := HR.out.c k hlt 0 (by omega)
        have r1 : w.cell? ⟨blk ra, ofs ra + k * 3 + 1, none⟩ = some (.string (R k).key) := HR.out.c k hlt 1 (by omega)
        have r2 : w.cell? ⟨blk ra, ofs ra + k * 3 + 2, none⟩ = some (.int .i64 (R k).at_) := HR.out.c k hlt 2 (by omega)
        have lg := HG.out.lt k hlt (by omega)
        have lr := HR.out.lt k hlt (by omega)
        have g0 := cell_below HB.out g0 lg
        have g1 := cell_below HB.out g1 lg
        have g2 := cell_below HB.out g2 lg
        have r0 := cell_below HB.out r0 lr
        have r1 := cell_below HB.out r1 lr
        have r2 := cell_below HB.out r2 lr
        clear lg lr
        go_wp2
        go_quiet (fail)
        go_wp2
        go_roundw
        case rel => exact ⟨k + 1, by omega, by go_num, drewN_below HB.out _⟩
        case measure => simp [intOf]; omega
      · go_wp2
        go_ret
        exact ⟨rfl, HB.out⟩
end Go.Proofs.Qxb6628443a
