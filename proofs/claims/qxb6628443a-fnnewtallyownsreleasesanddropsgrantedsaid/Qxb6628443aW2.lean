import Derived.Test.Qxb6628443aMem
namespace Go.Proofs.Qxb6628443a
open Go.RowKit

set_option maxRecDepth 100000 in
set_option maxHeartbeats 4000000 in
theorem zzBytes21 (la : Option Addr) (ln lc : Nat) (L : Nat → LI) (tok : Int) (ra : Option Addr) (rn rc : Nat) (R : Nat → RI) (mem : Int) (ba : Option Addr) (bn bc : Nat) (B : Nat → BI) (ga : Option Addr) (gn gc : Nat) (G : Nat → GI) (w : World) (inp : Inp w la ln L ra rn R ba bn B ga gn G) :
    Calls Try.prog 21 #[.slice la ln lc, .int .u64 tok, .slice ra rn rc, .int .i64 mem, .slice ba bn bc, .slice ga gn gc] w (BoolRet w (SmL ln L ∧ SmR rn R ∧ SmB bn B ∧ SmG gn G)) := by
  have bl := inp.bl
  have br := inp.br
  have bb := inp.bb
  have bg := inp.bg
  have IN := hide inp
  unfold maxLen at bl br bb bg
  clear inp
  go_enter Try.func21, Try.ntmps21
  by_cases g0 : ln ≤ 1048576
  case neg =>
    go_wp2
    go_ret
    exact BoolRet.no rfl
  go_wp2
  go_loop [13, 14] (fun z i => ∃ k m : Nat, k ≤ ln ∧ i = .int .i64 k ∧ z = .int .i64 m ∧ m ≤ 1048576 ∧ ∀ i, i < k → (L i).name.size ≤ 1048576 ∧ (L i).holder.size ≤ 1048576 ∧ (L i).key.size ≤ 1048576) (fun _ i => ln - (intOf i).toNat)
  case atStart => exact ⟨0, ln, Nat.zero_le _, rfl, by go_num, g0, fun i hi => by omega⟩
  case round =>
    obtain ⟨k, m0, hk, rfl, rfl, m0le, hall⟩ := hrel
    have HA := hide hall
    clear hall
    by_cases hlt : k < ln
    case pos =>
      have hidx := fun w => run_index_at (P := Try.prog) (c := lc) Try.underlying22 size50 IN.out.l.pl hlt w
      have hname : w.cell? ⟨blk la, ofs la + k * 6, none⟩ = some (.string (L k).name) := IN.out.l.c k hlt 0 (by omega)
      have hholder : w.cell? ⟨blk la, ofs la + k * 6 + 1, none⟩ = some (.string (L k).holder) := IN.out.l.c k hlt 1 (by omega)
      have hkey : w.cell? ⟨blk la, ofs la + k * 6 + 5, none⟩ = some (.string (L k).key) := IN.out.l.c k hlt 5 (by omega)
      by_cases sname : (L k).name.size ≤ 1048576
      case neg =>
        go_wp2
        go_ret
        exact BoolRet.no rfl
      by_cases aname : m0 + (L k).name.size ≤ 1048576
      case neg =>
        go_wp2
        go_ret
        exact BoolRet.no rfl
      by_cases sholder : (L k).holder.size ≤ 1048576
      case neg =>
        go_wp2
        go_ret
        exact BoolRet.no rfl
      by_cases aholder : m0 + (L k).name.size + (L k).holder.size ≤ 1048576
      case neg =>
        go_wp2
        go_ret
        exact BoolRet.no rfl
      by_cases skey : (L k).key.size ≤ 1048576
      case neg =>
        go_wp2
        go_ret
        exact BoolRet.no rfl
      by_cases akey : m0 + (L k).name.size + (L k).holder.size + (L k).key.size ≤ 1048576
      case neg =>
        go_wp2
        go_ret
        exact BoolRet.no rfl
      go_wp2
      go_round
      case rel => exact ⟨k + 1, m0 + (L k).name.size + (L k).holder.size + (L k).key.size, by omega, by go_num, by go_num, akey, fun i hi => by
        by_cases e : i = k
        · rw [e]; exact ⟨sname, sholder, skey⟩
        · exact HA.out i (by omega)⟩
      case measure => simp [intOf]; omega
    have hk' : k = ln := by omega
    have K0 : Hid (∀ i, i < ln → (L i).name.size ≤ 1048576 ∧ (L i).holder.size ≤ 1048576 ∧ (L i).key.size ≤ 1048576) := hk' ▸ HA.out
    clear hk' HA hk
    by_cases g1 : rn ≤ 1048576
    case neg =>
      go_wp2
      go_ret
      exact BoolRet.no rfl
    by_cases t1 : m0 + rn ≤ 1048576
    case neg =>
      go_wp2
      go_ret
      exact BoolRet.no rfl
    go_wp2
    go_loop [13, 15] (fun z i => ∃ k m : Nat, k ≤ rn ∧ i = .int .i64 k ∧ z = .int .i64 m ∧ m ≤ 1048576 ∧ ∀ i, i < k → (R i).key.size ≤ 1048576) (fun _ i => rn - (intOf i).toNat)
    case atStart => exact ⟨0, m0 + rn, Nat.zero_le _, rfl, by go_num, t1, fun i hi => by omega⟩
    case round =>
      clear t1 m0le hlt
      obtain ⟨k, m1, hk, rfl, rfl, m1le, hall⟩ := hrel
      have HA := hide hall
      clear hall
      by_cases hlt : k < rn
      case pos =>
        have hidx := fun w => run_index_at (P := Try.prog) (c := rc) Try.underlying24 size71 IN.out.r.pl hlt w
        have hkey : w.cell? ⟨blk ra, ofs ra + k * 3 + 1, none⟩ = some (.string (R k).key) := IN.out.r.c k hlt 1 (by omega)
        by_cases skey : (R k).key.size ≤ 1048576
        case neg =>
          go_wp2
          go_ret
          exact BoolRet.no rfl
        by_cases akey : m1 + (R k).key.size ≤ 1048576
        case neg =>
          go_wp2
          go_ret
          exact BoolRet.no rfl
        go_wp2
        go_round
        case rel => exact ⟨k + 1, m1 + (R k).key.size, by omega, by go_num, by go_num, akey, fun i hi => by
          by_cases e : i = k
          · rw [e]; exact skey
          · exact HA.out i (by omega)⟩
        case measure => simp [intOf]; omega
      have hk' : k = rn := by omega
      have K1 : Hid (∀ i, i < rn → (R i).key.size ≤ 1048576) := hk' ▸ HA.out
      clear hk' HA hk
      by_cases g2 : bn ≤ 1048576
      case neg =>
        go_wp2
        go_ret
        exact BoolRet.no rfl
      by_cases t2 : m1 + bn ≤ 1048576
      case neg =>
        go_wp2
        go_ret
        exact BoolRet.no rfl
      go_wp2
      go_loop [13, 16] (fun z i => ∃ k m : Nat, k ≤ bn ∧ i = .int .i64 k ∧ z = .int .i64 m ∧ m ≤ 1048576 ∧ ∀ i, i < k → (B i).name.size ≤ 1048576) (fun _ i => bn - (intOf i).toNat)
      case atStart => exact ⟨0, m1 + bn, Nat.zero_le _, rfl, by go_num, t2, fun i hi => by omega⟩
      case round =>
        clear t2 m1le hlt
        obtain ⟨k, m2, hk, rfl, rfl, m2le, hall⟩ := hrel
        have HA := hide hall
        clear hall
        by_cases hlt : k < bn
        case pos =>
          have hidx := fun w => run_index_at (P := Try.prog) (c := bc) Try.underlying25 size58 IN.out.b.pl hlt w
          have hname : w.cell? ⟨blk ba, ofs ba + k * 3, none⟩ = some (.string (B k).name) := IN.out.b.c k hlt 0 (by omega)
          by_cases sname : (B k).name.size ≤ 1048576
          case neg =>
            go_wp2
            go_ret
            exact BoolRet.no rfl
          by_cases aname : m2 + (B k).name.size ≤ 1048576
          case neg =>
            go_wp2
            go_ret
            exact BoolRet.no rfl
          go_wp2
          go_round
          case rel => exact ⟨k + 1, m2 + (B k).name.size, by omega, by go_num, by go_num, aname, fun i hi => by
            by_cases e : i = k
            · rw [e]; exact sname
            · exact HA.out i (by omega)⟩
          case measure => simp [intOf]; omega
        have hk' : k = bn := by omega
        have K2 : Hid (∀ i, i < bn → (B i).name.size ≤ 1048576) := hk' ▸ HA.out
        clear hk' HA hk
        by_cases g3 : gn ≤ 1048576
        case neg =>
          go_wp2
          go_ret
          exact BoolRet.no rfl
        by_cases t3 : m2 + gn ≤ 1048576
        case neg =>
          go_wp2
          go_ret
          exact BoolRet.no rfl
        go_wp2
        go_loop [13, 17] (fun z i => ∃ k m : Nat, k ≤ gn ∧ i = .int .i64 k ∧ z = .int .i64 m ∧ m ≤ 1048576 ∧ ∀ i, i < k → (G i).budget.size ≤ 1048576 ∧ (G i).holder.size ≤ 1048576 ∧ (G i).key.size ≤ 1048576) (fun _ i => gn - (intOf i).toNat)
        case atStart => exact ⟨0, m2 + gn, Nat.zero_le _, rfl, by go_num, t3, fun i hi => by omega⟩
        case round =>
          clear t3 m2le hlt
          obtain ⟨k, m3, hk, rfl, rfl, m3le, hall⟩ := hrel
          have HA := hide hall
          clear hall
          by_cases hlt : k < gn
          case pos =>
            have hidx := fun w => run_index_at (P := Try.prog) (c := gc) Try.underlying26 size66 IN.out.g.pl hlt w
            have hbudget : w.cell? ⟨blk ga, ofs ga + k * 7, none⟩ = some (.string (G k).budget) := IN.out.g.c k hlt 0 (by omega)
            have hholder : w.cell? ⟨blk ga, ofs ga + k * 7 + 1, none⟩ = some (.string (G k).holder) := IN.out.g.c k hlt 1 (by omega)
            have hkey : w.cell? ⟨blk ga, ofs ga + k * 7 + 6, none⟩ = some (.string (G k).key) := IN.out.g.c k hlt 6 (by omega)
            by_cases sbudget : (G k).budget.size ≤ 1048576
            case neg =>
              go_wp2
              go_ret
              exact BoolRet.no rfl
            by_cases abudget : m3 + (G k).budget.size ≤ 1048576
            case neg =>
              go_wp2
              go_ret
              exact BoolRet.no rfl
            by_cases sholder : (G k).holder.size ≤ 1048576
            case neg =>
              go_wp2
              go_ret
              exact BoolRet.no rfl
            by_cases aholder : m3 + (G k).budget.size + (G k).holder.size ≤ 1048576
            case neg =>
              go_wp2
              go_ret
              exact BoolRet.no rfl
            by_cases skey : (G k).key.size ≤ 1048576
            case neg =>
              go_wp2
              go_ret
              exact BoolRet.no rfl
            by_cases akey : m3 + (G k).budget.size + (G k).holder.size + (G k).key.size ≤ 1048576
            case neg =>
              go_wp2
              go_ret
              exact BoolRet.no rfl
            go_wp2
            go_round
            case rel => exact ⟨k + 1, m3 + (G k).budget.size + (G k).holder.size + (G k).key.size, by omega, by go_num, by go_num, akey, fun i hi => by
              by_cases e : i = k
              · rw [e]; exact ⟨sbudget, sholder, skey⟩
              · exact HA.out i (by omega)⟩
            case measure => simp [intOf]; omega
          have hk' : k = gn := by omega
          have K3 : Hid (∀ i, i < gn → (G i).budget.size ≤ 1048576 ∧ (G i).holder.size ≤ 1048576 ∧ (G i).key.size ≤ 1048576) := hk' ▸ HA.out
          clear hk' HA hk
          go_wp2
          go_ret
          exact BoolRet.yes rfl ⟨⟨g0, K0.out⟩, ⟨g1, K1.out⟩, ⟨g2, K2.out⟩, ⟨g3, K3.out⟩⟩
end Go.Proofs.Qxb6628443a
