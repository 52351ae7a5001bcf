import Derived.Test.Qxb6628425aFmtMem
namespace Go.Proofs.Qxb6628425aFmt
open Go.RowKit

set_option maxHeartbeats 1000000 in
theorem zzHas (a : Option Addr) (l : List ByteArray) (c : Nat) (x : ByteArray) (w : World) (hs : StrsIn w a l) (bl : l.length ≤ 1048576) :
    Calls Tryf.prog 8 #[.slice a l.length c, .string x] w fun e w' => e = .returned (.bool (has l x)) ∧ w' = w := by
  have HS := hide hs
  clear hs
  go_enter Tryf.func8, Tryf.ntmps8
  go_wp2
  go_loop [5] (fun i => ∃ k : Nat, k ≤ l.length ∧ i = .int .i64 k ∧ ∀ j, j < k → nth l j ≠ x) (fun i => l.length - (intOf i).toNat)
  case atStart => exact ⟨0, Nat.zero_le _, rfl, fun j hj => by omega⟩
  case round =>
    obtain ⟨k, hk, rfl, hh⟩ := hrel
    have HH := hide hh
    clear hh
    by_cases hlt : k < l.length
    · have hidx := fun w => run_index_at (P := Tryf.prog) (c := c) Tryf.underlying22 size9 HS.out.pl hlt w
      have hc := HS.out.c0 k hlt
      cases he : (nth l k).toList == x.toList
      · have hne := hide (ne_of_beq he)
        go_wp2
        go_round
        case rel => exact ⟨k + 1, by omega, by go_num, fun j hj => by
          by_cases e : j = k
          · rw [e]; exact hne.out
          · exact HH.out j (by omega)⟩
        case measure => simp [intOf]; omega
      · have hb : Hid (has l x = true) := by rw [← eq_of_beq he]; exact has_nth hlt
        go_wp2
        go_ret
        exact ⟨by rw [hb.out]; rfl, rfl⟩
    · obtain rfl : k = l.length := by omega
      have hb := hide (has_no HH.out)
      go_wp2
      go_ret
      exact ⟨by rw [hb.out]; rfl, rfl⟩

set_option maxHeartbeats 1000000 in
/-- slices.Index, as far as slices.Contains asks. -/
theorem index (a : Option Addr) (l : List ByteArray) (c : Nat) (x : ByteArray) (w : World) (hs : StrsIn w a l) (bl : l.length ≤ 1048576) :
    Calls Tryf.prog 14 #[.slice a l.length c, .string x] w fun e w' => ∃ n : Int, e = .returned (.int .i64 n) ∧ w' = w ∧ decide (0 ≤ n) = has l x := by
  have HS := hide hs
  clear hs
  go_enter Tryf.func14, Tryf.ntmps14
  go_wp2
  go_loop [8] (fun i => ∃ k : Nat, k ≤ l.length ∧ i = .int .i64 k ∧ ∀ j, j < k → nth l j ≠ x) (fun i => l.length - (intOf i).toNat)
  case atStart => exact ⟨0, Nat.zero_le _, rfl, fun j hj => by omega⟩
  case round =>
    obtain ⟨k, hk, rfl, hh⟩ := hrel
    have HH := hide hh
    clear hh
    by_cases hlt : k < l.length
    · have hidx := fun w => run_index_at (P := Tryf.prog) (c := c) Tryf.underlying22 size9 HS.out.pl hlt w
      have hc := HS.out.c0 k hlt
      cases he : x.toList == (nth l k).toList
      · have hne := hide (ne_of_beq he)
        go_wp2
        go_round
        case rel => exact ⟨k + 1, by omega, by go_num, fun j hj => by
          by_cases e : j = k
          · rw [e]; exact hne.out.symm
          · exact HH.out j (by omega)⟩
        case measure => simp [intOf]; omega
      · have hb : Hid (has l x = true) := by rw [eq_of_beq he]; exact has_nth hlt
        go_wp2
        go_ret
        exact ⟨k, rfl, rfl, by rw [hb.out]; simp⟩
    · obtain rfl : k = l.length := by omega
      have hb := hide (has_no HH.out)
      go_wp2
      go_ret
      exact ⟨-1, rfl, rfl, by rw [hb.out]; rfl⟩

theorem contains (a : Option Addr) (l : List ByteArray) (c : Nat) (x : ByteArray) (w : World) (hs : StrsIn w a l) (bl : l.length ≤ 1048576) :
    Calls Tryf.prog 11 #[.slice a l.length c, .string x] w fun e w' => e = .returned (.bool (has l x)) ∧ w' = w := by
  go_enter Tryf.func11, Tryf.ntmps11
  go_wp2_with fail
  refine (index a l c x w hs bl).mono ?_
  rintro e w' ⟨n, rfl, rfl, hn⟩
  have hb := hide hn
  clear hn hs
  go_wp2
  go_ret
  exact ⟨by rw [← hb.out]; rfl, rfl⟩
end Go.Proofs.Qxb6628425aFmt
