import Derived.Test.Qxb6628475aRows
import Derived.WalkKit
import Derived.WalkSpells
namespace Go.Proofs.Qxb6628475a
open Go.RowKit

theorem hide {p : Prop} (h : p) : Hid p := h

/-- The byte at a place. -/
def byt (s : ByteArray) (i : Nat) : Nat := (s.data.getD i 0).toNat
theorem run_byt {s : ByteArray} {i : Nat} (h : i < s.size) (w : World) : (Instr.index 9 (.string s) (.int .i64 (i : Int))).run Try.prog w = .ok (.int .u8 (byt s i : Int)) w := by
  rw [run_index_string w 9 s .i64 i Try.underlying9, dif_pos ⟨by omega, by omega⟩]
  have : (s[((i : Int)).toNat]'(by simpa using h)).toNat = byt s i := by
    have h' : i < s.data.size := h
    simp only [Int.toNat_natCast, byt]
    rw [Array.getD, dif_pos h']
    rfl
  rw [this]
theorem byt_lt (s : ByteArray) (i : Nat) : byt s i < 256 := UInt8.toNat_lt _

def Ascii (s : ByteArray) : Prop := ∀ i, i < s.size → byt s i < 128
def Occ (s : ByteArray) (c : Nat) : Prop := ∃ i, i < s.size ∧ byt s i = c

set_option maxHeartbeats 400000 in
theorem bytes5 (s : ByteArray) (k : Int) (w : World) (b : s.size ≤ maxLen) :
    Calls Try.prog 5 #[.string s, .int .i64 k] w fun e w' => e = .returned (.bool (decide (s.size ≤ 1048576))) ∧ w' = w := by
  unfold maxLen at b
  by_cases h : s.size ≤ 1048576
  · go_enter Try.func5, Try.ntmps5
    go_wp2
    go_ret
    exact ⟨by simp [h], rfl⟩
  · go_enter Try.func5, Try.ntmps5
    go_wp2
    go_ret
    exact ⟨by simp [h], rfl⟩
set_option maxHeartbeats 400000 in
theorem bytes10 (s : ByteArray) (k c : Int) (w : World) (b : s.size ≤ maxLen) :
    Calls Try.prog 10 #[.string s, .int .i64 k, .int .u8 c] w fun e w' => e = .returned (.bool (decide (s.size ≤ 1048576))) ∧ w' = w := by
  unfold maxLen at b
  by_cases h : s.size ≤ 1048576
  · go_enter Try.func10, Try.ntmps10
    go_wp2
    go_ret
    exact ⟨by simp [h], rfl⟩
  · go_enter Try.func10, Try.ntmps10
    go_wp2
    go_ret
    exact ⟨by simp [h], rfl⟩

/-- A bool comes back; if it is true, Q holds. -/
def BoolIs (w : World) (Q : Prop) (e : Ending) (w' : World) : Prop := ∃ b, e = .returned (.bool b) ∧ w' = w ∧ (b = true ↔ Q)

set_option maxHeartbeats 400000 in
theorem allAscii (s : ByteArray) (w : World) (hs : s.size ≤ 1048576) : Calls Try.prog 6 #[.string s] w (BoolIs w (Ascii s)) := by
  go_enter Try.func6, Try.ntmps6
  go_wp2
  go_loop [3] (fun i => ∃ k : Nat, k ≤ s.size ∧ i = .int .i64 k ∧ ∀ j, j < k → byt s j < 128) (fun i => s.size - (intOf i).toNat)
  case atStart => exact ⟨0, Nat.zero_le _, rfl, fun j hj => by omega⟩
  case round =>
    obtain ⟨k, hk, rfl, hall⟩ := hrel
    have HA := hide hall
    clear hall
    by_cases hlt : k < s.size
    · have hidx := run_byt hlt
      by_cases g : byt s k < 128
      · have g' : decide ((128 : Int) ≤ (byt s k : Int)) = false := decide_eq_false (by omega)
        have G := hide g
        clear g
        go_wp2
        go_round
        case rel => exact ⟨k + 1, by omega, by go_num, fun j hj => by
          by_cases e : j = k
          · rw [e]; exact G.out
          · exact HA.out j (by omega)⟩
        case measure => simp [intOf]; omega
      · have g' : decide ((128 : Int) ≤ (byt s k : Int)) = true := decide_eq_true (by omega)
        have G := hide g
        clear g
        go_wp2
        go_ret
        exact ⟨false, rfl, rfl, ⟨fun h => (by cases h), fun h => absurd (h k hlt) G.out⟩⟩
    · go_wp2
      go_ret
      exact ⟨true, rfl, rfl, ⟨fun _ i hi => HA.out i (by omega), fun _ => rfl⟩⟩

set_option maxHeartbeats 400000 in
theorem occurs (s : ByteArray) (c : Nat) (w : World) (hs : s.size ≤ 1048576) : Calls Try.prog 11 #[.string s, .int .u8 (c : Int)] w (BoolIs w (Occ s c)) := by
  go_enter Try.func11, Try.ntmps11
  go_wp2
  go_loop [5] (fun i => ∃ k : Nat, k ≤ s.size ∧ i = .int .i64 k ∧ ∀ j, j < k → byt s j ≠ c) (fun i => s.size - (intOf i).toNat)
  case atStart => exact ⟨0, Nat.zero_le _, rfl, fun j hj => by omega⟩
  case round =>
    obtain ⟨k, hk, rfl, hall⟩ := hrel
    have HA := hide hall
    clear hall
    by_cases hlt : k < s.size
    · have hidx := run_byt hlt
      by_cases g : byt s k = c
      · have g' : ((byt s k : Int) == (c : Int)) = true := by simp [g]
        go_wp2
        go_ret
        exact ⟨true, rfl, rfl, ⟨fun _ => ⟨k, hlt, g⟩, fun _ => rfl⟩⟩
      · have g' : ((byt s k : Int) == (c : Int)) = false := by simp; omega
        go_wp2
        go_round
        case rel => exact ⟨k + 1, by omega, by go_num, fun j hj => by
          by_cases e : j = k
          · rw [e]; exact g
          · exact HA.out j (by omega)⟩
        case measure => simp [intOf]; omega
    · go_wp2
      go_ret
      exact ⟨false, rfl, rfl, ⟨fun h => (by cases h), fun ⟨j, hj, e⟩ => absurd e (HA.out j (by omega))⟩⟩
end Go.Proofs.Qxb6628475a
