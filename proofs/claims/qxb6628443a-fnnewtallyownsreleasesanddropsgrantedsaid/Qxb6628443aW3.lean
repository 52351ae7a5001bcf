import Derived.Test.Qxb6628443aMem
namespace Go.Proofs.Qxb6628443a
open Go.RowKit

/-- An int comes back; nothing has turned. -/
def IntRet (w : World) (e : Ending) (w' : World) : Prop := ∃ n : Int, e = .returned (.int .i64 n) ∧ w' = w

set_option maxRecDepth 100000 in
set_option maxHeartbeats 4000000 in
theorem zzSize (la : Option Addr) (ln lc : Nat) (L : Nat → LI) (ra : Option Addr) (rn rc : Nat) (R : Nat → RI) (ba : Option Addr) (bn bc : Nat) (B : Nat → BI) (ga : Option Addr) (gn gc : Nat) (G : Nat → GI) (w : World) (inp : Inp w la ln L ra rn R ba bn B ga gn G)
    (sl : SmL ln L) (sr : SmR rn R) (sb : SmB bn B) (sg : SmG gn G) :
    Calls Try.prog 6 #[.slice la ln lc, .slice ra rn rc, .slice ba bn bc, .slice ga gn gc] w (IntRet w) := by
  have bl := sl.1
  have br := sr.1
  have bb := sb.1
  have bg := sg.1
  have IN := hide inp
  have SL := hide sl.2
  have SR := hide sr.2
  have SB := hide sb.2
  have SG := hide sg.2
  clear inp sl sr sb sg
  go_enter Try.func6, Try.ntmps6
  go_wp2
  go_loop [9, 10] (fun z i => ∃ k m : Nat, k ≤ ln ∧ i = .int .i64 k ∧ z = .int .i64 m ∧ m ≤ 1048576) (fun _ i => ln - (intOf i).toNat)
  case atStart => exact ⟨0, 0, Nat.zero_le _, rfl, rfl, by omega⟩
  case round =>
    obtain ⟨k, m0, hk, rfl, rfl, m0le⟩ := hrel
    by_cases hlt : k < ln
    case pos =>
      have hidx := fun w => run_index_at (P := Try.prog) (c := lc) Try.underlying22 size50 IN.out.l.pl hlt w
      have hsm := SL.out k hlt
      obtain ⟨qname, qholder, qkey⟩ := hsm
      have hname : w.cell? ⟨blk la, ofs la + k * 6, none⟩ = some (.string (L k).name) := IN.out.l.c k hlt 0 (by omega)
      have hholder : w.cell? ⟨blk la, ofs la + k * 6 + 1, none⟩ = some (.string (L k).holder) := IN.out.l.c k hlt 1 (by omega)
      have hkey : w.cell? ⟨blk la, ofs la + k * 6 + 5, none⟩ = some (.string (L k).key) := IN.out.l.c k hlt 5 (by omega)
      by_cases aname : m0 + 24 + (L k).name.size ≤ 1048576
      case neg =>
        go_wp2
        go_ret
        exact ⟨_, rfl, rfl⟩
      by_cases aholder : m0 + 24 + (L k).name.size + (L k).holder.size ≤ 1048576
      case neg =>
        go_wp2
        go_ret
        exact ⟨_, rfl, rfl⟩
      by_cases akey : m0 + 24 + (L k).name.size + (L k).holder.size + (L k).key.size ≤ 1048576
      case neg =>
        go_wp2
        go_ret
        exact ⟨_, rfl, rfl⟩
      go_wp2
      go_round
      case rel => exact ⟨k + 1, m0 + 24 + (L k).name.size + (L k).holder.size + (L k).key.size, by omega, by go_num, by go_num, akey⟩
      case measure => simp [intOf]; omega
    go_wp2
    go_loop [9, 11] (fun z i => ∃ k m : Nat, k ≤ rn ∧ i = .int .i64 k ∧ z = .int .i64 m ∧ m ≤ 1048576) (fun _ i => rn - (intOf i).toNat)
    case atStart => exact ⟨0, m0, Nat.zero_le _, rfl, rfl, m0le⟩
    case round =>
      clear m0le hlt hk
      obtain ⟨k, m1, hk, rfl, rfl, m1le⟩ := hrel
      by_cases hlt : k < rn
      case pos =>
        have hidx := fun w => run_index_at (P := Try.prog) (c := rc) Try.underlying24 size71 IN.out.r.pl hlt w
        have hsm := SR.out k hlt
        have hkey : w.cell? ⟨blk ra, ofs ra + k * 3 + 1, none⟩ = some (.string (R k).key) := IN.out.r.c k hlt 1 (by omega)
        by_cases akey : m1 + 16 + (R k).key.size ≤ 1048576
        case neg =>
          go_wp2
          go_ret
          exact ⟨_, rfl, rfl⟩
        go_wp2
        go_round
        case rel => exact ⟨k + 1, m1 + 16 + (R k).key.size, by omega, by go_num, by go_num, akey⟩
        case measure => simp [intOf]; omega
      go_wp2
      go_loop [9, 12] (fun z i => ∃ k m : Nat, k ≤ bn ∧ i = .int .i64 k ∧ z = .int .i64 m ∧ m ≤ 1048576) (fun _ i => bn - (intOf i).toNat)
      case atStart => exact ⟨0, m1, Nat.zero_le _, rfl, rfl, m1le⟩
      case round =>
        clear m1le hlt hk
        obtain ⟨k, m2, hk, rfl, rfl, m2le⟩ := hrel
        by_cases hlt : k < bn
        case pos =>
          have hidx := fun w => run_index_at (P := Try.prog) (c := bc) Try.underlying25 size58 IN.out.b.pl hlt w
          have hsm := SB.out k hlt
          have hname : w.cell? ⟨blk ba, ofs ba + k * 3, none⟩ = some (.string (B k).name) := IN.out.b.c k hlt 0 (by omega)
          by_cases aname : m2 + 16 + (B k).name.size ≤ 1048576
          case neg =>
            go_wp2
            go_ret
            exact ⟨_, rfl, rfl⟩
          go_wp2
          go_round
          case rel => exact ⟨k + 1, m2 + 16 + (B k).name.size, by omega, by go_num, by go_num, aname⟩
          case measure => simp [intOf]; omega
        go_wp2
        go_loop [9, 13] (fun z i => ∃ k m : Nat, k ≤ gn ∧ i = .int .i64 k ∧ z = .int .i64 m ∧ m ≤ 1048576) (fun _ i => gn - (intOf i).toNat)
        case atStart => exact ⟨0, m2, Nat.zero_le _, rfl, rfl, m2le⟩
        case round =>
          clear m2le hlt hk
          obtain ⟨k, m3, hk, rfl, rfl, m3le⟩ := hrel
          by_cases hlt : k < gn
          case pos =>
            have hidx := fun w => run_index_at (P := Try.prog) (c := gc) Try.underlying26 size66 IN.out.g.pl hlt w
            have hsm := SG.out k hlt
            obtain ⟨qbudget, qholder, qkey⟩ := hsm
            have hbudget : w.cell? ⟨blk ga, ofs ga + k * 7, none⟩ = some (.string (G k).budget) := IN.out.g.c k hlt 0 (by omega)
            have hholder : w.cell? ⟨blk ga, ofs ga + k * 7 + 1, none⟩ = some (.string (G k).holder) := IN.out.g.c k hlt 1 (by omega)
            have hkey : w.cell? ⟨blk ga, ofs ga + k * 7 + 6, none⟩ = some (.string (G k).key) := IN.out.g.c k hlt 6 (by omega)
            by_cases abudget : m3 + 32 + (G k).budget.size ≤ 1048576
            case neg =>
              go_wp2
              go_ret
              exact ⟨_, rfl, rfl⟩
            by_cases aholder : m3 + 32 + (G k).budget.size + (G k).holder.size ≤ 1048576
            case neg =>
              go_wp2
              go_ret
              exact ⟨_, rfl, rfl⟩
            by_cases akey : m3 + 32 + (G k).budget.size + (G k).holder.size + (G k).key.size ≤ 1048576
            case neg =>
              go_wp2
              go_ret
              exact ⟨_, rfl, rfl⟩
            go_wp2
            go_round
            case rel => exact ⟨k + 1, m3 + 32 + (G k).budget.size + (G k).holder.size + (G k).key.size, by omega, by go_num, by go_num, akey⟩
            case measure => simp [intOf]; omega
          go_wp2
          go_ret
          exact ⟨_, rfl, rfl⟩
end Go.Proofs.Qxb6628443a
