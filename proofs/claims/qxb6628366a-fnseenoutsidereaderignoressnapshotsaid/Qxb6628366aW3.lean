import Derived.Test.Qxb6628366aMem
namespace Go.Proofs.Qxb6628366a
open Go.RowKit

set_option maxRecDepth 100000 in
set_option maxHeartbeats 4000000 in
theorem sizeOK (h : LVer) (oa : Option Addr) (on oc : Nat) (V : Nat → LVer) (sa : Option Addr) (sn sc : Nat) (w : World)
    (hh : RowIn w h.ra h.rn h.row) (ho : VersIn w oa on V) (sm : Small h on V sn) :
    Calls Try.prog 6 #[.agg #[.slice h.ra h.rn h.rc, .bool h.ghost, .int .i64 h.writer, .int .u64 h.com], .slice oa on oc, .slice sa sn sc] w (BoolRet w True) := by
  have SM : Hid (Small h on V sn) := sm
  have bh := sm.hr
  have bo := sm.ol
  have bs := sm.sl
  have HH : Hid (RowIn w h.ra h.rn h.row) := hh
  have HO : Hid (VersIn w oa on V) := ho
  clear hh ho sm
  have FIN : Below w.heap.size w (w.alloc (Obj.cells #[Value.slice h.ra h.rn h.rc, Value.bool h.ghost, Value.int IntKind.i64 h.writer, Value.int IntKind.u64 h.com] 25)) := (Below.refl _ _).alloc (Nat.le_refl _) _
  by_cases g0 : sn ≤ 65536
  · by_cases g1 : on ≤ 65536
    · by_cases g2 : h.rn ≤ 65536
      · by_cases g3 : sn + on * 48 + h.rn * 32 ≤ 1048576
        · go_enter Try.func6, Try.ntmps6
          go_wp2
          go_loop [7, 8] (fun z i => ∃ k m : Nat, k ≤ h.rn ∧ i = .int .i64 k ∧ z = .int .i64 m ∧ m ≤ 1048576) (fun _ i => h.rn - (intOf i).toNat)
          case atStart => exact ⟨0, sn + on * 48 + h.rn * 32, Nat.zero_le _, rfl, by go_num, g3⟩
          case round =>
            clear g3
            obtain ⟨k, m, hk, rfl, rfl, hm⟩ := hrel
            by_cases hlt : k < h.rn
            · have hidx := fun w => run_index_at (P := Try.prog) (c := h.rc) Try.underlying22 size49 HH.out.pl hlt w
              have hc := HH.out.c2 k hlt
              have hl := HH.out.lt k hlt
              have hs := SM.out.hs k hlt
              by_cases g4 : m + (h.row k).s.size ≤ 1048576
              · go_wp2
                go_round
                case rel => exact ⟨k + 1, m + (h.row k).s.size, by omega, by go_num, by go_num, g4⟩
                case measure => simp [intOf]; omega
              · go_wp2
                go_ret
                exact BoolRet.no rfl FIN
            · go_wp2
              go_loop [7, 9, 10] (fun z i _ => ∃ k m : Nat, k ≤ on ∧ i = .int .i64 k ∧ z = .int .i64 m ∧ m ≤ 1048576) (fun _ i _ => on - (intOf i).toNat)
              case atStart => exact ⟨0, m, Nat.zero_le _, rfl, rfl, hm⟩
              case round =>
                clear hm hk hlt
                obtain ⟨i, m, hi, rfl, rfl, hm⟩ := hrel
                by_cases hlt : i < on
                · have hidx := fun w => run_index_at (P := Try.prog) (c := oc) Try.underlying26 size25 HO.out.pl hlt w
                  have hc := HO.out.c0 i hlt
                  have hl := HO.out.lt i hlt
                  have hvb := SM.out.vr i hlt
                  by_cases g4 : (V i).rn ≤ 65536
                  · by_cases g5 : m + (V i).rn * 32 ≤ 1048576
                    · go_wp2
                      go_loop [7, 10] (fun z j => ∃ l m : Nat, l ≤ (V i).rn ∧ j = .int .i64 l ∧ z = .int .i64 m ∧ m ≤ 1048576) (fun _ j => (V i).rn - (intOf j).toNat)
                      case atStart => exact ⟨0, m + (V i).rn * 32, Nat.zero_le _, rfl, by go_num, g5⟩
                      case round =>
                        clear hm g5
                        obtain ⟨l, m, hl', rfl, rfl, hm⟩ := hrel
                        by_cases hlt2 : l < (V i).rn
                        · have hidx2 := fun w => run_index_at (P := Try.prog) (c := (V i).rc) Try.underlying22 size49 (HO.out.row i hlt).pl hlt2 w
                          have hc2 := (HO.out.row i hlt).c2 l hlt2
                          have hl2 := (HO.out.row i hlt).lt l hlt2
                          have hs := SM.out.vs i hlt l hlt2
                          by_cases g5 : m + ((V i).row l).s.size ≤ 1048576
                          · go_wp2
                            go_round
                            case rel => exact ⟨l + 1, m + ((V i).row l).s.size, by omega, by go_num, by go_num, g5⟩
                            case measure => simp [intOf]; omega
                          · go_wp2
                            go_ret
                            exact BoolRet.no rfl FIN
                        · go_wp2
                          go_round
                          case rel => exact ⟨i + 1, m, by omega, by go_num, rfl, hm⟩
                          case measure => simp [intOf]; omega
                    · go_wp2
                      go_ret
                      exact BoolRet.no rfl FIN
                  · go_wp2
                    go_ret
                    exact BoolRet.no rfl FIN
                · go_wp2
                  go_ret
                  exact BoolRet.yes rfl FIN trivial
        · go_enter Try.func6, Try.ntmps6
          go_wp2
          go_ret
          exact BoolRet.no rfl FIN
      · go_enter Try.func6, Try.ntmps6
        go_wp2
        go_ret
        exact BoolRet.no rfl FIN
    · go_enter Try.func6, Try.ntmps6
      go_wp2
      go_ret
      exact BoolRet.no rfl FIN
  · go_enter Try.func6, Try.ntmps6
    go_wp2
    go_ret
    exact BoolRet.no rfl FIN
end Go.Proofs.Qxb6628366a
