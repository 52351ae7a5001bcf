import Derived.Test.Qxb6628366aPlain
namespace Go.Proofs.Qxb6628366a
open Go.RowKit

/-- The newest committed version. -/
def nIdx (h : LVer) (on : Nat) (n : Int) : Option Nat := if own h.writer n then (if on = 0 then none else some (on - 1)) else some on

/-- THE PLAIN LAW: a reader outside any transaction, below Final, sees the newest committed version. -/
theorem seen_outside {S : Nat → Bool} {n : Int} {h : LVer} {on : Nat} {V : Nat → LVer} {r snap : Int} (sh : Shape h on V n) (hr : own r n = false) (hs : (snap == 18446744073709551615) = false) : seenIdx S n h on V r snap (on + 1) = nIdx h on n := by
  unfold seenIdx
  rw [lastVis, ver_top]
  have ho : own h.writer n = true → lastVis (fun j => !passed S n (ver h on V j).writer (ver h on V j).com r snap) on = if on = 0 then none else some (on - 1) := fun _ => by
    cases on with
    | zero => rfl
    | succ m =>
      rw [lastVis, ver_old (by omega), passed_old (sh.wr m (by omega))]
      simp [vis, hr]
  unfold nIdx
  cases g : own h.writer n
  · rw [passed_old g]; simp [vis, hr]
  · rw [ho g]
    have : passed S n h.writer h.com r snap = true := by
      unfold passed
      rw [g, hr]
      simp [bne, hs]
    rw [this]
    simp

theorem nIdx_lt {h : LVer} {on : Nat} {n : Int} {j : Nat} (e : nIdx h on n = some j) : j < on + 1 := by
  unfold nIdx at e
  split at e
  · split at e
    · cases e
    · cases e; omega
  · cases e; omega

set_option maxRecDepth 100000 in
set_option maxHeartbeats 4000000 in
theorem newest (h : LVer) (oa : Option Addr) (on oc : Nat) (V : Nat → LVer) (n : Int) (w : World) (ho : VersIn w oa on V) (bo : on ≤ maxLen) (sh : Shape h on V n) :
    Calls Try.prog 15 #[.agg #[.slice h.ra h.rn h.rc, .bool h.ghost, .int .i64 h.writer, .int .u64 h.com], .slice oa on oc, .int .i64 n] w (Ret1 w (.int .i64 (encSeen on (nIdx h on n)))) := by
  unfold maxLen at bo
  have HO : Hid (VersIn w oa on V) := ho
  have SH : Hid (Shape h on V n) := sh
  clear ho sh
  cases g2 : own h.writer n
  · have HM : Hid (encSeen on (nIdx h on n) = -1) := by simp [Hid, nIdx, g2, encSeen]
    go_enter Try.func15, Try.ntmps15
    go_wp2_with (go_at_call 9; refine (isOwner _ _ _).mono ?_; rintro e w' ⟨rfl, rfl⟩)
    go_loop [7, 8, 9] (fun b q i => ∃ k : Nat, k ≤ on ∧ i = .int .i64 k ∧ b = .int .i64 (-1) ∧ q = .int .u64 h.com) (fun _ _ i => on - (intOf i).toNat)
    case atStart => exact ⟨0, Nat.zero_le _, rfl, rfl, rfl⟩
    case round =>
      obtain ⟨k, hk, rfl, rfl, rfl⟩ := hrel
      by_cases hlt : k < on
      · have hidx := fun w => run_index_at (P := Try.prog) (c := oc) Try.underlying26 size25 HO.out.pl hlt w
        have hc3 := HO.out.c3 k hlt
        have hl := HO.out.lt k hlt
        have ht := SH.out.top g2 k hlt
        go_wp2
        go_round
        case rel => exact ⟨k + 1, by omega, by go_num, rfl, rfl⟩
        case measure => simp [intOf]; omega
      · go_wp2
        go_ret
        exact ⟨by rw [HM.out]; rfl, below1 _ _⟩
  · have HM : Hid (nIdx h on n = if on = 0 then none else some (on - 1)) := by simp [Hid, nIdx, g2]
    go_enter Try.func15, Try.ntmps15
    go_wp2_with (go_at_call 9; refine (isOwner _ _ _).mono ?_; rintro e w' ⟨rfl, rfl⟩)
    go_loop [7, 8, 9] (fun b u i => ∃ (k : Nat) (z q : Int), k ≤ on ∧ i = .int .i64 k ∧ b = .int .i64 z ∧ u = .int .u64 q ∧ ((k = 0 ∧ z = -2) ∨ (0 < k ∧ z = (k : Int) - 1 ∧ q = (V (k - 1)).com))) (fun _ _ i => on - (intOf i).toNat)
    case atStart => exact ⟨0, -2, 0, Nat.zero_le _, rfl, rfl, rfl, .inl ⟨rfl, rfl⟩⟩
    case round =>
      obtain ⟨k, z, q, hk, rfl, rfl, rfl, hz⟩ := hrel
      have HZ : Hid ((k = 0 ∧ z = -2) ∨ (0 < k ∧ z = (k : Int) - 1 ∧ q = (V (k - 1)).com)) := hz
      clear hz
      by_cases hlt : k < on
      · have hidx := fun w => run_index_at (P := Try.prog) (c := oc) Try.underlying26 size25 HO.out.pl hlt w
        have hc3 := HO.out.c3 k hlt
        have hl := HO.out.lt k hlt
        have fin : Hid ((k + 1 = 0 ∧ (k : Int) = -2) ∨ (0 < k + 1 ∧ (k : Int) = ((k + 1 : Nat) : Int) - 1 ∧ (V k).com = (V (k + 1 - 1)).com)) := .inr ⟨by omega, by omega, rfl⟩
        rcases HZ.out with ⟨e1, e2⟩ | ⟨e1, e2, e3⟩
        · have e4 : (z == -2) = true := by rw [e2]; rfl
          clear e1 e2
          go_wp2
          go_round
          case rel => exact ⟨k + 1, k, (V k).com, by omega, by go_num, rfl, rfl, fin.out⟩
          case measure => simp [intOf]; omega
        · have e4 : (z == -2) = false := by simp; omega
          have e5 : q < (V k).com := by rw [e3]; exact SH.out.inc k hlt (k - 1) (by omega)
          clear e1 e2 e3
          go_wp2
          go_round
          case rel => exact ⟨k + 1, k, (V k).com, by omega, by go_num, rfl, rfl, fin.out⟩
          case measure => simp [intOf]; omega
      · obtain rfl : on = k := by omega
        have HZ2 : Hid (encSeen on (nIdx h on n) = z) := by
          rw [HM.out]
          rcases HZ.out with ⟨e1, e2⟩ | ⟨e1, e2, e3⟩
          · rw [if_pos e1, e2]; rfl
          · rw [if_neg (by omega), e2]; simp [Hid, encSeen]; omega
        go_wp2
        go_ret
        exact ⟨by rw [HZ2.out]; rfl, below1 _ _⟩
end Go.Proofs.Qxb6628366a
