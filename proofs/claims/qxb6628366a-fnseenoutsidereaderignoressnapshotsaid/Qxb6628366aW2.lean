import Derived.Test.Qxb6628366aMem
namespace Go.Proofs.Qxb6628366a
open Go.RowKit

set_option maxRecDepth 100000 in
set_option maxHeartbeats 4000000 in
theorem zzBytes5 (h : LVer) (oa : Option Addr) (on oc : Nat) (V : Nat → LVer) (sa : Option Addr) (sn sc : Nat) (x y : Int) (w : World)
    (hh : RowIn w h.ra h.rn h.row) (ho : VersIn w oa on V) (bh : h.rn ≤ maxLen) (bo : on ≤ maxLen) (bs : sn ≤ maxLen) (bv : ∀ i, i < on → (V i).rn ≤ maxLen) :
    Calls Try.prog 5 #[.agg #[.slice h.ra h.rn h.rc, .bool h.ghost, .int .i64 h.writer, .int .u64 h.com], .slice oa on oc, .slice sa sn sc, .int .i64 x, .int .u64 y] w (BoolRet w (Small h on V sn)) := by
  unfold maxLen at bh bo bs
  have BV : Hid (∀ i, i < on → (V i).rn ≤ maxLen) := bv
  have HH : Hid (RowIn w h.ra h.rn h.row) := hh
  have HO : Hid (VersIn w oa on V) := ho
  clear hh ho bv
  have fin : Below w.heap.size w (w.alloc (Obj.cells #[Value.slice h.ra h.rn h.rc, Value.bool h.ghost, Value.int IntKind.i64 h.writer, Value.int IntKind.u64 h.com] 25)) := (Below.refl _ _).alloc (Nat.le_refl _) _
  have FIN := fin
  clear fin
  by_cases g1 : h.rn ≤ 1048576
  · go_enter Try.func5, Try.ntmps5
    go_wp2
    go_loop [11, 12] (fun z i => ∃ k m : Nat, k ≤ h.rn ∧ i = .int .i64 k ∧ z = .int .i64 m ∧ m ≤ 1048576 ∧ ∀ j, j < k → (h.row j).s.size ≤ 1048576) (fun _ i => h.rn - (intOf i).toNat)
    case atStart => exact ⟨0, h.rn, Nat.zero_le _, rfl, rfl, g1, fun j hj => by omega⟩
    case round =>
      obtain ⟨k, m, hk, rfl, rfl, hm, hall⟩ := hrel
      have HA : Hid (∀ j, j < k → (h.row j).s.size ≤ 1048576) := hall
      clear hall
      by_cases hlt : k < h.rn
      · have hidx := fun w => run_index_at (P := Try.prog) (c := h.rc) Try.underlying22 size49 HH.out.pl hlt w
        have hc := HH.out.c2 k hlt
        have hl := HH.out.lt k hlt
        by_cases g2 : (h.row k).s.size ≤ 1048576
        · by_cases g3 : m + (h.row k).s.size ≤ 1048576
          · go_wp2
            go_round
            case rel => exact ⟨k + 1, m + (h.row k).s.size, by omega, by go_num, by go_num, g3, fun j hj => by
              by_cases e : j = k
              · subst e; exact g2
              · exact HA.out j (by omega)⟩
            case measure => simp [intOf]; omega
          · go_wp2
            go_ret
            exact BoolRet.no rfl FIN
        · go_wp2
          go_ret
          exact BoolRet.no rfl FIN
      · have hk' : k = h.rn := by omega
        have HA' : Hid (∀ j, j < h.rn → (h.row j).s.size ≤ 1048576) := hk' ▸ HA.out
        clear hk' HA
        by_cases g4 : on ≤ 1048576
        · by_cases g5 : m + on ≤ 1048576
          · go_wp2
            go_loop [11, 13, 14] (fun z i _ => ∃ k m : Nat, k ≤ on ∧ i = .int .i64 k ∧ z = .int .i64 m ∧ m ≤ 1048576 ∧ (∀ j, j < k → (V j).rn ≤ 1048576 ∧ ∀ l, l < (V j).rn → ((V j).row l).s.size ≤ 1048576)) (fun _ i _ => on - (intOf i).toNat)
            case atStart => exact ⟨0, m + on, Nat.zero_le _, rfl, by go_num, g5, fun j hj => by omega⟩
            case round =>
              clear hm g5 hk hlt
              obtain ⟨i, m, hi, rfl, rfl, hm, hall⟩ := hrel
              have HA : Hid (∀ j, j < i → (V j).rn ≤ 1048576 ∧ ∀ l, l < (V j).rn → ((V j).row l).s.size ≤ 1048576) := hall
              clear hall
              by_cases hlt : i < on
              · have hidx := fun w => run_index_at (P := Try.prog) (c := oc) Try.underlying26 size25 HO.out.pl hlt w
                have hc := HO.out.c0 i hlt
                have hl := HO.out.lt i hlt
                have hvb := BV.out i hlt
                unfold maxLen at hvb
                by_cases g2 : (V i).rn ≤ 1048576
                · by_cases g3 : m + (V i).rn ≤ 1048576
                  · go_wp2
                    go_loop [11, 14] (fun z j => ∃ l m : Nat, l ≤ (V i).rn ∧ j = .int .i64 l ∧ z = .int .i64 m ∧ m ≤ 1048576 ∧ (∀ q, q < l → ((V i).row q).s.size ≤ 1048576)) (fun _ j => (V i).rn - (intOf j).toNat)
                    case atStart => exact ⟨0, m + (V i).rn, Nat.zero_le _, rfl, by go_num, g3, fun j hj => by omega⟩
                    case round =>
                      clear hm g3
                      obtain ⟨l, m, hl', rfl, rfl, hm, hall⟩ := hrel
                      have HB : Hid (∀ q, q < l → ((V i).row q).s.size ≤ 1048576) := hall
                      clear hall
                      by_cases hlt2 : l < (V i).rn
                      · have hidx2 := fun w => run_index_at (P := Try.prog) (c := (V i).rc) Try.underlying22 size49 (HO.out.row i hlt).pl hlt2 w
                        have hc2 := (HO.out.row i hlt).c2 l hlt2
                        have hl2 := (HO.out.row i hlt).lt l hlt2
                        by_cases g4 : ((V i).row l).s.size ≤ 1048576
                        · by_cases g5 : m + ((V i).row l).s.size ≤ 1048576
                          · go_wp2
                            go_round
                            case rel => exact ⟨l + 1, m + ((V i).row l).s.size, by omega, by go_num, by go_num, g5, fun j hj => by
                              by_cases e : j = l
                              · subst e; exact g4
                              · exact HB.out j (by omega)⟩
                            case measure => simp [intOf]; omega
                          · go_wp2
                            go_ret
                            exact BoolRet.no rfl FIN
                        · go_wp2
                          go_ret
                          exact BoolRet.no rfl FIN
                      · have hk' : l = (V i).rn := by omega
                        have HB' : Hid (∀ j, j < (V i).rn → ((V i).row j).s.size ≤ 1048576) := hk' ▸ HB.out
                        clear hk' HB
                        go_wp2
                        go_round
                        case rel => exact ⟨i + 1, m, by omega, by go_num, rfl, hm, fun j hj => by
                          by_cases e : j = i
                          · subst e; exact ⟨g2, HB'.out⟩
                          · exact HA.out j (by omega)⟩
                        case measure => simp [intOf]; omega
                  · go_wp2
                    go_ret
                    exact BoolRet.no rfl FIN
                · go_wp2
                  go_ret
                  exact BoolRet.no rfl FIN
              · have hk' : i = on := by omega
                have HB' : Hid (∀ j, j < on → (V j).rn ≤ 1048576 ∧ ∀ l, l < (V j).rn → ((V j).row l).s.size ≤ 1048576) := hk' ▸ HA.out
                clear hk' HA
                by_cases g6 : sn ≤ 1048576
                · by_cases g7 : m + sn ≤ 1048576
                  · go_wp2
                    go_ret
                    exact BoolRet.yes rfl FIN ⟨g1, HA'.out, g4, fun i hi => (HB'.out i hi).1, fun i hi => (HB'.out i hi).2, g6⟩
                  · go_wp2
                    go_ret
                    exact BoolRet.no rfl FIN
                · go_wp2
                  go_ret
                  exact BoolRet.no rfl FIN
          · go_wp2
            go_ret
            exact BoolRet.no rfl FIN
        · go_wp2
          go_ret
          exact BoolRet.no rfl FIN
  · go_enter Try.func5, Try.ntmps5
    go_wp2
    go_ret
    exact BoolRet.no rfl FIN
end Go.Proofs.Qxb6628366a
