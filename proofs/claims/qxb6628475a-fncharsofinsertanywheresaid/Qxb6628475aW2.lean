import Derived.Test.Qxb6628475aW1
namespace Go.Proofs.Qxb6628475a
open Go.RowKit

theorem ofInt_nat (x : Nat) : BitVec.ofInt IntKind.u64.bits (x : Int) = BitVec.ofNat 64 x := by
  show BitVec.ofInt 64 (x : Int) = BitVec.ofNat 64 x
  simp
theorem wrap_u64 {n : Nat} (h : n < 2 ^ 64) : IntKind.u64.wrap (n : Int) = n := by
  rw [IntKind.wrap_u64]
  omega
theorem bits_and_one (x : Nat) : bits .and .u64 (x : Int) 1 = ((x % 2 : Nat) : Int) := by
  have e : ((BitVec.ofInt IntKind.u64.bits (x : Int)) &&& (BitVec.ofInt IntKind.u64.bits ((1 : Nat) : Int))).toNat = x % 2 := by
    rw [ofInt_nat, ofInt_nat]
    show ((BitVec.ofNat 64 x) &&& (BitVec.ofNat 64 1)).toNat = x % 2
    rw [BitVec.toNat_and, BitVec.toNat_ofNat, BitVec.toNat_ofNat]
    rw [show 1 % 2 ^ 64 = 1 from rfl, Nat.and_one_is_mod]
    omega
  show IntKind.u64.wrap ((BitVec.ofInt IntKind.u64.bits (x : Int)) &&& (BitVec.ofInt IntKind.u64.bits ((1 : Nat) : Int))).toNat = _
  rw [e, wrap_u64 (by omega)]
theorem bits_or_nat {x y : Nat} (hx : x < 2 ^ 64) (hy : y < 2 ^ 64) : bits .or .u64 (x : Int) (y : Int) = ((x ||| y : Nat) : Int) := by
  have e : ((BitVec.ofInt IntKind.u64.bits (x : Int)) ||| (BitVec.ofInt IntKind.u64.bits (y : Int))).toNat = x ||| y := by
    rw [ofInt_nat, ofInt_nat]
    show ((BitVec.ofNat 64 x) ||| (BitVec.ofNat 64 y)).toNat = x ||| y
    rw [BitVec.toNat_or, BitVec.toNat_ofNat, BitVec.toNat_ofNat, Nat.mod_eq_of_lt hx, Nat.mod_eq_of_lt hy]
  show IntKind.u64.wrap ((BitVec.ofInt IntKind.u64.bits (x : Int)) ||| (BitVec.ofInt IntKind.u64.bits (y : Int))).toNat = _
  rw [e, wrap_u64 (Nat.or_lt_two_pow hx hy)]
theorem shr_one (x k : Nat) : (bits .and .u64 ((x : Int) / 2 ^ k) 1 == 1) = x.testBit k := by
  have : ((x : Int) / 2 ^ k) = ((x / 2 ^ k : Nat) : Int) := by simp
  rw [this, bits_and_one, Nat.testBit_eq_decide_div_mod_eq]
  rcases Nat.mod_two_eq_zero_or_one (x / 2 ^ k) with h | h <;> simp [h]

/-- How many of the first k bits are set. -/
def popc (x k : Nat) : Nat := (List.range k).countP (fun i => x.testBit i)
theorem popc_le (x k : Nat) : popc x k ≤ k := by
  have : popc x k ≤ (List.range k).length := List.countP_le_length
  simpa using this
theorem popc_one {x k : Nat} (h : x.testBit k = true) : popc x (k + 1) = popc x k + 1 := by simp [popc, List.range_succ, h]
theorem popc_zero {x k : Nat} (h : x.testBit k = false) : popc x (k + 1) = popc x k := by simp [popc, List.range_succ, h]

set_option maxHeartbeats 400000 in
theorem pop (x : Nat) (w : World) : Calls Try.prog 12 #[.int .u64 (x : Int)] w fun e w' => e = .returned (.int .i64 (popc x 64 : Int)) ∧ w' = w := by
  go_enter Try.func12, Try.ntmps12
  go_wp2
  go_loop [3, 4] (fun n i => ∃ k : Nat, k ≤ 64 ∧ i = .int .i64 k ∧ n = .int .i64 (popc x k : Int)) (fun _ i => 64 - (intOf i).toNat)
  case atStart => exact ⟨0, Nat.zero_le _, rfl, rfl⟩
  case round =>
    obtain ⟨k, hk, rfl, rfl⟩ := hrel
    have hp := popc_le x k
    by_cases hlt : k < 64
    · have hm : min k 64 = k := by omega
      have hs := shr_one x k
      have hwk : IntKind.u64.wrap (k : Int) = k := wrap_u64 (by omega)
      cases g : x.testBit k
      · rw [g] at hs
        go_wp2
        go_round
        case rel => exact ⟨k + 1, by omega, by go_num, by rw [popc_zero g]⟩
        case measure => simp [intOf]; omega
      · rw [g] at hs
        go_wp2
        go_round
        case rel => exact ⟨k + 1, by omega, by go_num, by rw [popc_one g]; go_num⟩
        case measure => simp [intOf]; omega
    · obtain rfl : k = 64 := by omega
      go_wp2
      go_ret
      exact ⟨rfl, rfl⟩
end Go.Proofs.Qxb6628475a
