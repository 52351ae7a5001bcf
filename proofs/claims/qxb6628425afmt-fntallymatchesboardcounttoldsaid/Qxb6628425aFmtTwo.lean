import Derived.Test.Qxb6628425aFmtBoard
import Derived.Test.Qxb6628425aFmtW6
import Derived.Test.Qxb6628425aFmtW8
namespace Go.Proofs.Qxb6628425aFmt
open Go.RowKit

set_option maxRecDepth 100000 in
set_option maxHeartbeats 4000000 in
theorem matchBoard (ma : Option Addr) (M : List ByteArray) (mc : Nat) (ra : Option Addr) (R : List ByteArray) (rc : Nat) (pa : Option Addr) (Q : List ByteArray) (pc : Nat) (va : Option Addr) (U : List ByteArray) (vc : Nat) (w : World)
    (inp : Inp w ma M ra R pa Q va U) :
    Calls Tryf.prog 3 #[.slice ma M.length mc, .slice ra R.length rc, .slice pa Q.length pc, .slice va U.length vc] w (Ret1 w (.bool true)) := by
  go_enter Tryf.func3, Tryf.ntmps3
  go_wp2_with fail
  refine (zzBytes5 ma M mc ra R rc pa Q pc va U vc _ inp.m inp.r inp.q inp.u inp.bm inp.br inp.bq inp.bu).mono ?_
  rintro e w1 ⟨b, rfl, b1, hsm⟩
  cases b
  · go_wp2
    go_ret
    exact ⟨rfl, b1⟩
  obtain ⟨SM, SR, SQ, SU⟩ := hsm rfl
  have IN := inp.below b1
  clear hsm
  have B1 := hide b1
  clear b1
  go_wp2_with fail
  refine (addBytes 0 ma M mc _ (by omega) (by omega) IN.m SM).mono ?_
  rintro e w' ⟨n1, rfl, hw, l1, u1⟩
  subst hw
  go_wp2_with fail
  refine (addBytes n1 ra R rc _ l1 u1 IN.r SR).mono ?_
  rintro e w' ⟨n2, rfl, hw, l2, u2⟩
  subst hw
  go_wp2_with fail
  refine (addBytes n2 pa Q pc _ l2 u2 IN.q SQ).mono ?_
  rintro e w' ⟨n3, rfl, hw, l3, u3⟩
  subst hw
  go_wp2_with fail
  refine (addBytes n3 va U vc _ l3 u3 IN.u SU).mono ?_
  rintro e w' ⟨n4, rfl, hw, l4, u4⟩
  subst hw
  clear l1 u1 l2 u2 l3 u3
  by_cases h5 : 1048576 < n4
  · go_wp2
    go_ret
    exact ⟨rfl, B1.out⟩
  by_cases c1 : 4096 < M.length
  · go_wp2
    go_ret
    exact ⟨rfl, B1.out⟩
  by_cases c2 : 4096 < R.length
  · go_wp2
    go_ret
    exact ⟨rfl, B1.out⟩
  by_cases c3 : 4096 < Q.length
  · go_wp2
    go_ret
    exact ⟨rfl, B1.out⟩
  by_cases c4 : 4096 < U.length
  · go_wp2
    go_ret
    exact ⟨rfl, B1.out⟩
  have d0 : decide (1048576 < n4) = false := decide_eq_false h5
  have d1 : decide ((4096 : Int) < (M.length : Int)) = false := decide_eq_false (by omega)
  have d2 : decide ((4096 : Int) < (R.length : Int)) = false := decide_eq_false (by omega)
  have d3 : decide ((4096 : Int) < (Q.length : Int)) = false := decide_eq_false (by omega)
  have d4 : decide ((4096 : Int) < (U.length : Int)) = false := decide_eq_false (by omega)
  have lm : M.length ≤ 4096 := by omega
  have lr : R.length ≤ 4096 := by omega
  have lq : Q.length ≤ 4096 := by omega
  have lu : U.length ≤ 4096 := by omega
  clear l4 u4 c1 c2 c3 c4 h5
  go_wp2_with fail
  refine (sorted ma M mc _ IN.m (by omega)).mono ?_
  rintro e w2 ⟨b, rfl, b2, nM⟩
  have B2 := hide (B1.out.trans (b2.mono B1.out.size))
  have IN2 := IN.below b2
  clear b2 IN B1
  cases b
  · go_wp2
    go_ret
    exact ⟨rfl, B2.out⟩
  go_wp2_with fail
  refine (sorted ra R rc _ IN2.r (by omega)).mono ?_
  rintro e w3 ⟨b, rfl, b3, nR⟩
  have B3 := hide (B2.out.trans (b3.mono B2.out.size))
  have IN3 := IN2.below b3
  clear b3 IN2 B2
  cases b
  · go_wp2
    go_ret
    exact ⟨rfl, B3.out⟩
  have NM := hide (nM (by trivial))
  have NR := hide (nR (by trivial))
  clear nM nR
  have IN3 := hide IN3
  clear d0 d1 d2 d3 d4
  go_wp2
  go_loop [10] (fun i => ∃ k : Nat, k ≤ R.length ∧ i = .int .i64 k ∧ ∀ j, j < k → has M (nth R j) = true) (fun i => R.length - (intOf i).toNat)
  case atStart => exact ⟨0, Nat.zero_le _, rfl, fun j hj => by omega⟩
  case round =>
    obtain ⟨k, hk, rfl, hall⟩ := hrel
    have HA := hide hall
    clear hall
    by_cases hlt : k < R.length
    · have hidx := fun w => run_index_at (P := Tryf.prog) (c := rc) Tryf.underlying22 size9 IN3.out.r.pl hlt w
      have hc := IN3.out.r.c0 k hlt
      cases g : has M (nth R k)
      · go_wp2_with (go_at_call 8; refine (zzHas ma M mc _ _ IN3.out.m (by omega)).mono ?_; rintro e w' ⟨rfl, hw⟩; subst hw)
        go_ret
        exact ⟨rfl, B3.out⟩
      · go_wp2_with (go_at_call 8; refine (zzHas ma M mc _ _ IN3.out.m (by omega)).mono ?_; rintro e w' ⟨rfl, hw⟩; subst hw)
        go_round
        case rel => exact ⟨k + 1, by omega, by go_num, fun j hj => by
          by_cases e : j = k
          · rw [e]; exact g
          · exact HA.out j (by omega)⟩
        case measure => simp [intOf]; omega
    · have hk' : k = R.length := by omega
      have RM : Hid (∀ x ∈ R, x ∈ M) := by
        intro x hx
        obtain ⟨j, hj, e⟩ := List.getElem_of_mem hx
        have := HA.out j (by omega)
        rw [nth_eq hj, e] at this
        exact has_iff.1 this
      clear hk HA hk'
      have hb2 := below1 w3 (.cells #[.slice ma M.length mc, .slice ra R.length rc] 29)
      have IN5 := IN3.out.below hb2
      have ht1 := tally w3.heap.size ma M mc ra R rc pa Q pc va U vc (w3.alloc (.cells #[.slice ma M.length mc, .slice ra R.length rc] 29)) (by simp) (by simp) IN5.m IN5.r IN5.q IN5.u (by omega) (by omega) (by omega) (by omega) SQ.2 SU.2
      go_wp2_with fail
      refine ht1.mono ?_
      rintro e w5 h5
      obtain ⟨d1, p1, f1, q1, s1, c1, E1, rfl, tv1⟩ := tally_val h5
      have T1 := hide tv1
      have b5 := h5.1
      clear ht1 tv1 h5 hlt
      have bz := below2 w5 (.cells #[.int .i64 d1, .int .i64 p1, .int .i64 f1, .bool q1, .bool s1, .bool c1] 31) (.cells #[.int .i64 0, .int .i64 0, .int .i64 0, .bool false, .bool false, .bool false] 31)
      have IN8 := hide ((IN5.below b5).below bz)
      have FIN : Hid (Below w.heap.size w ((w5.alloc (.cells #[.int .i64 d1, .int .i64 p1, .int .i64 f1, .bool q1, .bool s1, .bool c1] 31)).alloc (.cells #[.int .i64 0, .int .i64 0, .int .i64 0, .bool false, .bool false, .bool false] 31))) := by
        have z0 := B3.out.size
        have z1 := b5.size
        have z2 := hb2.size
        exact ((B3.out.trans (hb2.mono z0)).trans (b5.mono (by omega))).trans (bz.mono (by omega))
      clear hb2 IN5 b5 bz IN3 B3
      go_wp2
      go_loop [15, 16] (fun s i => ∃ (k : Nat) (b : Bool), k ≤ Q.length ∧ i = .int .i64 k ∧ s = .bool b ∧ (b = true ↔ ∃ j, j < k ∧ has M (nth Q j) = false)) (fun _ i => Q.length - (intOf i).toNat)
      case atStart => exact ⟨0, false, Nat.zero_le _, rfl, rfl, by simp⟩
      case round =>
        obtain ⟨k, b, hk, rfl, rfl, hb⟩ := hrel
        have HA := hide hb
        clear hb
        by_cases hlt : k < Q.length
        · have hidx := fun w => run_index_at (P := Tryf.prog) (c := pc) Tryf.underlying22 size9 IN8.out.q.pl hlt w
          have hc := IN8.out.q.c0 k hlt
          cases g : has M (nth Q k)
          · go_wp2_with (go_at_call 8; refine (zzHas ma M mc _ _ IN8.out.m (by omega)).mono ?_; rintro e w' ⟨rfl, hw⟩; subst hw)
            go_round
            case rel => exact ⟨k + 1, true, by omega, by go_num, rfl, ⟨fun _ => ⟨k, by omega, g⟩, fun _ => rfl⟩⟩
            case measure => simp [intOf]; omega
          · go_wp2_with (go_at_call 8; refine (zzHas ma M mc _ _ IN8.out.m (by omega)).mono ?_; rintro e w' ⟨rfl, hw⟩; subst hw)
            go_round
            case rel => exact ⟨k + 1, b, by omega, by go_num, rfl, HA.out.trans ⟨fun ⟨j, h1, h2⟩ => ⟨j, by omega, h2⟩, fun ⟨j, h1, h2⟩ => ⟨j, by
              by_cases e : j = k
              · rw [e, g] at h2; cases h2
              · omega, h2⟩⟩⟩
            case measure => simp [intOf]; omega
        · obtain rfl : k = Q.length := by omega
          clear hk hlt
          go_wp2
          go_loop [15, 17] (fun s i => ∃ (k : Nat) (b' : Bool), k ≤ U.length ∧ i = .int .i64 k ∧ s = .bool b' ∧ (b' = true ↔ b = true ∨ ∃ j, j < k ∧ has Q (nth U j) = false)) (fun _ i => U.length - (intOf i).toNat)
          case atStart => exact ⟨0, b, Nat.zero_le _, rfl, rfl, by simp⟩
          case round =>
            obtain ⟨k, b', hk, rfl, rfl, hb⟩ := hrel
            have HC := hide hb
            clear hb
            by_cases hlt : k < U.length
            · have hidx := fun w => run_index_at (P := Tryf.prog) (c := vc) Tryf.underlying22 size9 IN8.out.u.pl hlt w
              have hc := IN8.out.u.c0 k hlt
              cases g : has Q (nth U k)
              · go_wp2_with (go_at_call 8; refine (zzHas pa Q pc _ _ IN8.out.q (by omega)).mono ?_; rintro e w' ⟨rfl, hw⟩; subst hw)
                go_round
                case rel => exact ⟨k + 1, true, by omega, by go_num, rfl, ⟨fun _ => .inr ⟨k, by omega, g⟩, fun _ => rfl⟩⟩
                case measure => simp [intOf]; omega
              · go_wp2_with (go_at_call 8; refine (zzHas pa Q pc _ _ IN8.out.q (by omega)).mono ?_; rintro e w' ⟨rfl, hw⟩; subst hw)
                go_round
                case rel => exact ⟨k + 1, b', by omega, by go_num, rfl, HC.out.trans ⟨fun h => h.imp id fun ⟨j, h1, h2⟩ => ⟨j, by omega, h2⟩, fun h => h.imp id fun ⟨j, h1, h2⟩ => ⟨j, by
                  by_cases e : j = k
                  · rw [e, g] at h2; cases h2
                  · omega, h2⟩⟩⟩
                case measure => simp [intOf]; omega
            · obtain rfl : k = U.length := by omega
              have HB := hide (bad_of HA.out HC.out)
              clear hk hlt HA HC
              cases b'
              · obtain ⟨rfl, rfl, rfl, rfl, eq, es, ec, le⟩ := law_board T1.out (fun h => by cases HB.out.2 h) NM.out NR.out RM.out
                have EQ := hide eq
                have ES := hide es
                have EC := hide ec
                have LE := hide le
                clear HB T1 NM NR RM SM SR SQ SU eq es ec le
                go_wp2
                go_loop [18, 19, 20, 21] (fun d p f i => ∃ k : Nat, k ≤ M.length ∧ i = .int .i64 k ∧ d = .int .i64 (cD M R k : Int) ∧ p = .int .i64 (cK M R Q k : Int) ∧ f = .int .i64 (cK M R U k : Int)) (fun _ _ _ i => M.length - (intOf i).toNat)
                case atStart => exact ⟨0, Nat.zero_le _, rfl, rfl, rfl, rfl⟩
                case round =>
                  obtain ⟨k, hk, rfl, rfl, rfl, rfl⟩ := hrel
                  have k1 := cD_le M R k
                  have k2 := cK_le M R Q k
                  have k3 := cK_le M R U k
                  by_cases hlt : k < M.length
                  · have hidx := fun w => run_index_at (P := Tryf.prog) (c := mc) Tryf.underlying22 size9 IN8.out.m.pl hlt w
                    have hc := IN8.out.m.c0 k hlt
                    cases gR : has R (nth M k)
                    · cases gQ : has Q (nth M k)
                      · cases gU : has U (nth M k)
                        · go_wp2_with (first
                          | (go_at_call_of 8 (Value.slice ra R.length rc); refine (zzHas ra R rc _ _ IN8.out.r (by omega)).mono ?_; rintro e w' ⟨rfl, hw⟩; subst hw)
                          | (go_at_call_of 8 (Value.slice pa Q.length pc); refine (zzHas pa Q pc _ _ IN8.out.q (by omega)).mono ?_; rintro e w' ⟨rfl, hw⟩; subst hw)
                          | (go_at_call_of 8 (Value.slice va U.length vc); refine (zzHas va U vc _ _ IN8.out.u (by omega)).mono ?_; rintro e w' ⟨rfl, hw⟩; subst hw))
                          go_round
                          case rel => exact ⟨k + 1, by omega, by go_num, by rw [cD_more hlt gR]; go_num, by rw [cK_out hlt gQ], by rw [cK_out hlt gU]⟩
                          case measure => simp [intOf]; omega
                        · go_wp2_with (first
                          | (go_at_call_of 8 (Value.slice ra R.length rc); refine (zzHas ra R rc _ _ IN8.out.r (by omega)).mono ?_; rintro e w' ⟨rfl, hw⟩; subst hw)
                          | (go_at_call_of 8 (Value.slice pa Q.length pc); refine (zzHas pa Q pc _ _ IN8.out.q (by omega)).mono ?_; rintro e w' ⟨rfl, hw⟩; subst hw)
                          | (go_at_call_of 8 (Value.slice va U.length vc); refine (zzHas va U vc _ _ IN8.out.u (by omega)).mono ?_; rintro e w' ⟨rfl, hw⟩; subst hw))
                          go_round
                          case rel => exact ⟨k + 1, by omega, by go_num, by rw [cD_more hlt gR]; go_num, by rw [cK_out hlt gQ], by rw [cK_more hlt gR gU]; go_num⟩
                          case measure => simp [intOf]; omega
                      · cases gU : has U (nth M k)
                        · go_wp2_with (first
                          | (go_at_call_of 8 (Value.slice ra R.length rc); refine (zzHas ra R rc _ _ IN8.out.r (by omega)).mono ?_; rintro e w' ⟨rfl, hw⟩; subst hw)
                          | (go_at_call_of 8 (Value.slice pa Q.length pc); refine (zzHas pa Q pc _ _ IN8.out.q (by omega)).mono ?_; rintro e w' ⟨rfl, hw⟩; subst hw)
                          | (go_at_call_of 8 (Value.slice va U.length vc); refine (zzHas va U vc _ _ IN8.out.u (by omega)).mono ?_; rintro e w' ⟨rfl, hw⟩; subst hw))
                          go_round
                          case rel => exact ⟨k + 1, by omega, by go_num, by rw [cD_more hlt gR]; go_num, by rw [cK_more hlt gR gQ]; go_num, by rw [cK_out hlt gU]⟩
                          case measure => simp [intOf]; omega
                        · go_wp2_with (first
                          | (go_at_call_of 8 (Value.slice ra R.length rc); refine (zzHas ra R rc _ _ IN8.out.r (by omega)).mono ?_; rintro e w' ⟨rfl, hw⟩; subst hw)
                          | (go_at_call_of 8 (Value.slice pa Q.length pc); refine (zzHas pa Q pc _ _ IN8.out.q (by omega)).mono ?_; rintro e w' ⟨rfl, hw⟩; subst hw)
                          | (go_at_call_of 8 (Value.slice va U.length vc); refine (zzHas va U vc _ _ IN8.out.u (by omega)).mono ?_; rintro e w' ⟨rfl, hw⟩; subst hw))
                          go_round
                          case rel => exact ⟨k + 1, by omega, by go_num, by rw [cD_more hlt gR]; go_num, by rw [cK_more hlt gR gQ]; go_num, by rw [cK_more hlt gR gU]; go_num⟩
                          case measure => simp [intOf]; omega
                    · go_wp2_with (first
                        | (go_at_call_of 8 (Value.slice ra R.length rc); refine (zzHas ra R rc _ _ IN8.out.r (by omega)).mono ?_; rintro e w' ⟨rfl, hw⟩; subst hw)
                        | (go_at_call_of 8 (Value.slice pa Q.length pc); refine (zzHas pa Q pc _ _ IN8.out.q (by omega)).mono ?_; rintro e w' ⟨rfl, hw⟩; subst hw)
                        | (go_at_call_of 8 (Value.slice va U.length vc); refine (zzHas va U vc _ _ IN8.out.u (by omega)).mono ?_; rintro e w' ⟨rfl, hw⟩; subst hw))
                      go_round
                      case rel => exact ⟨k + 1, by omega, by go_num, by rw [cD_skip hlt gR], by rw [cK_skip hlt gR], by rw [cK_skip hlt gR]⟩
                      case measure => simp [intOf]; omega
                  · obtain rfl : k = M.length := by omega
                    clear hk hlt
                    have e1 := EQ.out
                    have e2 := ES.out
                    have e3 := EC.out
                    have le := LE.out
                    clear EQ ES EC LE IN8
                    by_cases a : (cD M R M.length : Int) < 2 * (cK M R Q M.length : Int)
                    · by_cases b : (cK M R Q M.length : Int) < 3
                      · by_cases c : (cD M R M.length : Int) < 2 * (cK M R U M.length : Int)
                        · obtain rfl : q1 = true := e1.trans (decide_eq_true a)
                          obtain rfl : s1 = true := e2.trans (decide_eq_true b)
                          obtain rfl : c1 = false := e3.trans (by rw [decide_eq_true b, decide_eq_true c]; rfl)
                          clear e1 e2 e3 le
                          go_wp2
                          go_ret
                          exact ⟨rfl, FIN.out.alloc FIN.out.size _⟩
                        · obtain rfl : q1 = true := e1.trans (decide_eq_true a)
                          obtain rfl : s1 = true := e2.trans (decide_eq_true b)
                          obtain rfl : c1 = false := e3.trans (by rw [decide_eq_true b, decide_eq_false c]; rfl)
                          clear e1 e2 e3 le
                          go_wp2
                          go_ret
                          exact ⟨rfl, FIN.out.alloc FIN.out.size _⟩
                      · by_cases c : (cD M R M.length : Int) < 2 * (cK M R U M.length : Int)
                        · obtain rfl : q1 = true := e1.trans (decide_eq_true a)
                          obtain rfl : s1 = false := e2.trans (decide_eq_false b)
                          obtain rfl : c1 = true := e3.trans (by rw [decide_eq_false b, decide_eq_true c]; rfl)
                          clear e1 e2 e3 le
                          go_wp2
                          go_ret
                          exact ⟨rfl, FIN.out.alloc FIN.out.size _⟩
                        · obtain rfl : q1 = true := e1.trans (decide_eq_true a)
                          obtain rfl : s1 = false := e2.trans (decide_eq_false b)
                          obtain rfl : c1 = false := e3.trans (by rw [decide_eq_false b, decide_eq_false c]; rfl)
                          clear e1 e2 e3 le
                          go_wp2
                          go_ret
                          exact ⟨rfl, FIN.out.alloc FIN.out.size _⟩
                    · have c : ¬ (cD M R M.length : Int) < 2 * (cK M R U M.length : Int) := by omega
                      by_cases b : (cK M R Q M.length : Int) < 3
                      · obtain rfl : q1 = false := e1.trans (decide_eq_false a)
                        obtain rfl : s1 = true := e2.trans (decide_eq_true b)
                        obtain rfl : c1 = false := e3.trans (by rw [decide_eq_true b, decide_eq_false c]; rfl)
                        clear e1 e2 e3 le
                        go_wp2
                        go_ret
                        exact ⟨rfl, FIN.out.alloc FIN.out.size _⟩
                      · obtain rfl : q1 = false := e1.trans (decide_eq_false a)
                        obtain rfl : s1 = false := e2.trans (decide_eq_false b)
                        obtain rfl : c1 = false := e3.trans (by rw [decide_eq_false b, decide_eq_false c]; rfl)
                        clear e1 e2 e3 le
                        go_wp2
                        go_ret
                        exact ⟨rfl, FIN.out.alloc FIN.out.size _⟩
              · obtain ⟨rfl, rfl, rfl, rfl, rfl, rfl, a1, rfl⟩ := tbad T1.out (HB.out.1 rfl)
                go_wp2
                go_ret
                exact ⟨rfl, FIN.out⟩
end Go.Proofs.Qxb6628425aFmt
