import Derived.Test.Qxb6628425aFmtW5
import Derived.BigQuiet
import Derived.Deep.QuietTactic
import Derived.WalkLawsBesides
namespace Go.Proofs.Qxb6628425aFmt
open Go.RowKit

/-- An int comes back that is no more than a bound; nothing has turned. -/
def IntRet (w : World) (e : Ending) (w' : World) : Prop := ∃ n : Int, e = .returned (.int .i64 n) ∧ w' = w ∧ 0 ≤ n ∧ n ≤ 4194304

set_option maxHeartbeats 1000000 in
theorem addBytes (acc : Int) (a : Option Addr) (l : List ByteArray) (c : Nat) (w : World) (h0 : 0 ≤ acc) (h1 : acc ≤ 4194304) (hs : StrsIn w a l) (sl : SmallL l) :
    Calls Tryf.prog 6 #[.int .i64 acc, .slice a l.length c] w (IntRet w) := by
  have HS := hide hs
  have SL := hide sl
  have bl := sl.1
  clear hs sl
  go_enter Tryf.func6, Tryf.ntmps6
  go_wp2
  go_loop [0, 5] (fun z i => ∃ (k : Nat) (m : Int), k ≤ l.length ∧ i = .int .i64 k ∧ z = .int .i64 m ∧ 0 ≤ m ∧ m ≤ 4194304) (fun _ i => l.length - (intOf i).toNat)
  case atStart => exact ⟨0, acc, Nat.zero_le _, rfl, rfl, h0, h1⟩
  case round =>
    clear h0 h1
    obtain ⟨k, m, hk, rfl, rfl, hm0, hm1⟩ := hrel
    by_cases hlt : k < l.length
    · have hidx := fun w => run_index_at (P := Tryf.prog) (c := c) Tryf.underlying22 size9 HS.out.pl hlt w
      have hc := HS.out.c0 k hlt
      have hz : (nth l k).size ≤ 1048576 := SL.out.2 _ (has_iff.1 (has_nth hlt))
      by_cases g1 : 1048576 < m
      · go_wp2
        go_ret
        exact ⟨m, rfl, rfl, hm0, hm1⟩
      · go_wp2
        go_round
        case rel => exact ⟨k + 1, m + 16 + (nth l k).size, by omega, by go_num, rfl, by omega, by omega⟩
        case measure => simp [intOf]; omega
    · go_wp2
      go_ret
      exact ⟨m, rfl, rfl, hm0, hm1⟩
end Go.Proofs.Qxb6628425aFmt
