import Derived.Test.Qxb6628425aFmtMem
namespace Go.Proofs.Qxb6628425aFmt
open Go.RowKit

/-- What 'zzBytes' asks: every length is at most 1<<20. -/
def SmallX (x : ByteArray) : Prop := x.size ≤ 1048576
def SmallL (l : List ByteArray) : Prop := l.length ≤ 1048576 ∧ ∀ x ∈ l, x.size ≤ 1048576
theorem smallL {l : List ByteArray} (h : l.length ≤ 1048576) (hs : ∀ j, j < l.length → (nth l j).size ≤ 1048576) : SmallL l :=
  ⟨h, fun x hx => by
    obtain ⟨j, hj, e⟩ := List.getElem_of_mem hx
    have := hs j hj
    rwa [nth_eq hj, e] at this⟩

set_option maxRecDepth 100000 in
set_option maxHeartbeats 4000000 in
theorem zzBytes10 (ma : Option Addr) (M : List ByteArray) (mc : Nat) (ra : Option Addr) (R : List ByteArray) (rc : Nat) (pa : Option Addr) (Q : List ByteArray) (pc : Nat) (va : Option Addr) (U : List ByteArray) (vc : Nat) (x : ByteArray) (k : Int) (w : World) (hm0 : StrsIn w ma M) (hr0 : StrsIn w ra R) (hq0 : StrsIn w pa Q) (hu0 : StrsIn w va U) (bm : M.length ≤ maxLen) (br : R.length ≤ maxLen) (bq : Q.length ≤ maxLen) (bu : U.length ≤ maxLen) (bx : x.size ≤ maxLen) :
    Calls Tryf.prog 10 #[.slice ma M.length mc, .slice ra R.length rc, .slice pa Q.length pc, .slice va U.length vc, .string x, .int .i64 k] w (BoolRet w (SmallL M ∧ SmallL R ∧ SmallL Q ∧ SmallL U ∧ SmallX x)) := by
  unfold maxLen at bm br bq bu bx
  have H0 := hide hm0
  have H1 := hide hr0
  have H2 := hide hq0
  have H3 := hide hu0
  clear hm0 hr0 hq0 hu0
  by_cases g0 : M.length ≤ 1048576
  · go_enter Tryf.func10, Tryf.ntmps10
    go_wp2
    go_loop [13, 14] (fun z i => ∃ k m : Nat, k ≤ M.length ∧ i = .int .i64 k ∧ z = .int .i64 m ∧ m ≤ 1048576 ∧ ∀ j, j < k → (nth M j).size ≤ 1048576) (fun _ i => M.length - (intOf i).toNat)
    case atStart => exact ⟨0, M.length, Nat.zero_le _, rfl, by go_num, by omega, fun j hj => by omega⟩
    case round =>
      obtain ⟨k, m, hk, rfl, rfl, hm, hall⟩ := hrel
      have HA := hide hall
      clear hall
      by_cases hlt : k < M.length
      · have hidx := fun w => run_index_at (P := Tryf.prog) (c := mc) Tryf.underlying22 size9 H0.out.pl hlt w
        have hc := H0.out.c0 k hlt
        by_cases s2 : (nth M k).size ≤ 1048576
        · by_cases s3 : m + (nth M k).size ≤ 1048576
          · go_wp2
            go_round
            case rel => exact ⟨k + 1, m + (nth M k).size, by omega, by go_num, by go_num, s3, fun j hj => by
              by_cases e : j = k
              · rw [e]; exact s2
              · exact HA.out j (by omega)⟩
            case measure => simp [intOf]; omega
          · go_wp2
            go_ret
            exact BoolRet.no rfl (Below.refl _ _)
        · go_wp2
          go_ret
          exact BoolRet.no rfl (Below.refl _ _)
      · have hk' : k = M.length := by omega
        have K0 : Hid (∀ j, j < M.length → (nth M j).size ≤ 1048576) := hk' ▸ HA.out
        clear hk' HA
        by_cases g1 : R.length ≤ 1048576
        · by_cases s1 : m + R.length ≤ 1048576
          · go_wp2
            go_loop [13, 15] (fun z i => ∃ k m : Nat, k ≤ R.length ∧ i = .int .i64 k ∧ z = .int .i64 m ∧ m ≤ 1048576 ∧ ∀ j, j < k → (nth R j).size ≤ 1048576) (fun _ i => R.length - (intOf i).toNat)
            case atStart => exact ⟨0, m + R.length, Nat.zero_le _, rfl, by go_num, by omega, fun j hj => by omega⟩
            case round =>
              clear hm s1 hk hlt
              obtain ⟨k, m, hk, rfl, rfl, hm, hall⟩ := hrel
              have HA := hide hall
              clear hall
              by_cases hlt : k < R.length
              · have hidx := fun w => run_index_at (P := Tryf.prog) (c := rc) Tryf.underlying22 size9 H1.out.pl hlt w
                have hc := H1.out.c0 k hlt
                by_cases s2 : (nth R k).size ≤ 1048576
                · by_cases s3 : m + (nth R k).size ≤ 1048576
                  · go_wp2
                    go_round
                    case rel => exact ⟨k + 1, m + (nth R k).size, by omega, by go_num, by go_num, s3, fun j hj => by
                      by_cases e : j = k
                      · rw [e]; exact s2
                      · exact HA.out j (by omega)⟩
                    case measure => simp [intOf]; omega
                  · go_wp2
                    go_ret
                    exact BoolRet.no rfl (Below.refl _ _)
                · go_wp2
                  go_ret
                  exact BoolRet.no rfl (Below.refl _ _)
              · have hk' : k = R.length := by omega
                have K1 : Hid (∀ j, j < R.length → (nth R j).size ≤ 1048576) := hk' ▸ HA.out
                clear hk' HA
                by_cases g2 : Q.length ≤ 1048576
                · by_cases s2 : m + Q.length ≤ 1048576
                  · go_wp2
                    go_loop [13, 16] (fun z i => ∃ k m : Nat, k ≤ Q.length ∧ i = .int .i64 k ∧ z = .int .i64 m ∧ m ≤ 1048576 ∧ ∀ j, j < k → (nth Q j).size ≤ 1048576) (fun _ i => Q.length - (intOf i).toNat)
                    case atStart => exact ⟨0, m + Q.length, Nat.zero_le _, rfl, by go_num, by omega, fun j hj => by omega⟩
                    case round =>
                      clear hm s2 hk hlt
                      obtain ⟨k, m, hk, rfl, rfl, hm, hall⟩ := hrel
                      have HA := hide hall
                      clear hall
                      by_cases hlt : k < Q.length
                      · have hidx := fun w => run_index_at (P := Tryf.prog) (c := pc) Tryf.underlying22 size9 H2.out.pl hlt w
                        have hc := H2.out.c0 k hlt
                        by_cases s2 : (nth Q k).size ≤ 1048576
                        · by_cases s3 : m + (nth Q k).size ≤ 1048576
                          · go_wp2
                            go_round
                            case rel => exact ⟨k + 1, m + (nth Q k).size, by omega, by go_num, by go_num, s3, fun j hj => by
                              by_cases e : j = k
                              · rw [e]; exact s2
                              · exact HA.out j (by omega)⟩
                            case measure => simp [intOf]; omega
                          · go_wp2
                            go_ret
                            exact BoolRet.no rfl (Below.refl _ _)
                        · go_wp2
                          go_ret
                          exact BoolRet.no rfl (Below.refl _ _)
                      · have hk' : k = Q.length := by omega
                        have K2 : Hid (∀ j, j < Q.length → (nth Q j).size ≤ 1048576) := hk' ▸ HA.out
                        clear hk' HA
                        by_cases g3 : U.length ≤ 1048576
                        · by_cases s3 : m + U.length ≤ 1048576
                          · go_wp2
                            go_loop [13, 17] (fun z i => ∃ k m : Nat, k ≤ U.length ∧ i = .int .i64 k ∧ z = .int .i64 m ∧ m ≤ 1048576 ∧ ∀ j, j < k → (nth U j).size ≤ 1048576) (fun _ i => U.length - (intOf i).toNat)
                            case atStart => exact ⟨0, m + U.length, Nat.zero_le _, rfl, by go_num, by omega, fun j hj => by omega⟩
                            case round =>
                              clear hm s3 hk hlt
                              obtain ⟨k, m, hk, rfl, rfl, hm, hall⟩ := hrel
                              have HA := hide hall
                              clear hall
                              by_cases hlt : k < U.length
                              · have hidx := fun w => run_index_at (P := Tryf.prog) (c := vc) Tryf.underlying22 size9 H3.out.pl hlt w
                                have hc := H3.out.c0 k hlt
                                by_cases s2 : (nth U k).size ≤ 1048576
                                · by_cases s3 : m + (nth U k).size ≤ 1048576
                                  · go_wp2
                                    go_round
                                    case rel => exact ⟨k + 1, m + (nth U k).size, by omega, by go_num, by go_num, s3, fun j hj => by
                                      by_cases e : j = k
                                      · rw [e]; exact s2
                                      · exact HA.out j (by omega)⟩
                                    case measure => simp [intOf]; omega
                                  · go_wp2
                                    go_ret
                                    exact BoolRet.no rfl (Below.refl _ _)
                                · go_wp2
                                  go_ret
                                  exact BoolRet.no rfl (Below.refl _ _)
                              · have hk' : k = U.length := by omega
                                have K3 : Hid (∀ j, j < U.length → (nth U j).size ≤ 1048576) := hk' ▸ HA.out
                                clear hk' HA
                                by_cases gx : x.size ≤ 1048576
                                · by_cases sx : m + x.size ≤ 1048576
                                  · go_wp2
                                    go_ret
                                    exact BoolRet.yes rfl (Below.refl _ _) ⟨smallL g0 K0.out, smallL g1 K1.out, smallL g2 K2.out, smallL g3 K3.out, gx⟩
                                  · go_wp2
                                    go_ret
                                    exact BoolRet.no rfl (Below.refl _ _)
                                · go_wp2
                                  go_ret
                                  exact BoolRet.no rfl (Below.refl _ _)
                          · go_wp2
                            go_ret
                            exact BoolRet.no rfl (Below.refl _ _)
                        · go_wp2
                          go_ret
                          exact BoolRet.no rfl (Below.refl _ _)
                  · go_wp2
                    go_ret
                    exact BoolRet.no rfl (Below.refl _ _)
                · go_wp2
                  go_ret
                  exact BoolRet.no rfl (Below.refl _ _)
          · go_wp2
            go_ret
            exact BoolRet.no rfl (Below.refl _ _)
        · go_wp2
          go_ret
          exact BoolRet.no rfl (Below.refl _ _)
  · go_enter Tryf.func10, Tryf.ntmps10
    go_wp2
    go_ret
    exact BoolRet.no rfl (Below.refl _ _)
end Go.Proofs.Qxb6628425aFmt
