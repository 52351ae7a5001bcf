import Derived.Test.Qxb6628425aFmtW5
import Derived.BigQuiet
import Derived.Deep.QuietTactic
import Derived.WalkLawsBesides
namespace Go.Proofs.Qxb6628425aFmt
open Go.RowKit

theorem less_irrefl : ∀ x : List UInt8, Op.bytesLess x x = false
  | [] => rfl
  | a :: x => by simp [Op.bytesLess, less_irrefl x]
theorem less_trans : ∀ {x y z : List UInt8}, Op.bytesLess x y = true → Op.bytesLess y z = true → Op.bytesLess x z = true
  | _, [], _, h, _ => by cases ‹List UInt8› <;> simp [Op.bytesLess] at h
  | _, _ :: _, [], _, h => by simp [Op.bytesLess] at h
  | [], _ :: _, _ :: _, _, _ => rfl
  | a :: x, b :: y, c :: z, h1, h2 => by
    simp only [Op.bytesLess, Bool.or_eq_true, decide_eq_true_eq, Bool.and_eq_true, beq_iff_eq] at h1 h2 ⊢
    rcases h1 with h1 | ⟨rfl, h1⟩
    · rcases h2 with h2 | ⟨rfl, h2⟩
      · exact .inl (UInt8.lt_trans h1 h2)
      · exact .inl h1
    · rcases h2 with h2 | ⟨rfl, h2⟩
      · exact .inl h2
      · exact .inr ⟨rfl, less_trans h1 h2⟩
/-- Each is less than its next, up to place k. -/
def Ups (l : List ByteArray) (k : Nat) : Prop := ∀ j, j + 1 < k → Op.bytesLess (nth l j).toList (nth l (j + 1)).toList = true
theorem ups_lt {l : List ByteArray} {k : Nat} (h : Ups l k) (i : Nat) : ∀ d, i + d + 1 < k → Op.bytesLess (nth l i).toList (nth l (i + d + 1)).toList = true
  | 0, hd => h i hd
  | d + 1, hd => less_trans (ups_lt h i d (by omega)) (h (i + d + 1) hd)
theorem ups_nodup {l : List ByteArray} (h : Ups l l.length) : l.Nodup := by
  rw [List.Nodup, List.pairwise_iff_getElem]
  intro i j hi hj hij e
  have := ups_lt h i (j - i - 1) (by omega)
  rw [show i + (j - i - 1) + 1 = j by omega, nth_eq hi, nth_eq hj, e, less_irrefl] at this
  cases this

theorem drewN_below {B : Nat} {a w : World} (h : Below B a w) (n : Nat) : Below B a (w.drewN n) := ⟨h.os, h.tape, h.output, h.size, h.block⟩

set_option maxHeartbeats 1000000 in
theorem sorted (a : Option Addr) (l : List ByteArray) (c : Nat) (w : World) (hs : StrsIn w a l) (bl : l.length ≤ 1048576) :
    Calls Tryf.prog 7 #[.slice a l.length c] w (BoolRet w l.Nodup) := by
  have HS := hide hs
  clear hs
  go_enter Tryf.func7, Tryf.ntmps7
  go_wp2
  go_loopw [3] (fun i wr => ∃ k : Nat, (k = 0 ∨ k < l.length) ∧ i = .int .i64 ((k : Int) + 1) ∧ Ups l (k + 1) ∧ Below w.heap.size w wr) (fun i _ => l.length + 1 - (intOf i).toNat)
  case atStart => exact ⟨0, .inl rfl, rfl, fun j hj => by omega, Below.refl _ _⟩
  case round =>
    obtain ⟨k, hk, rfl, hu, bw⟩ := hrel
    have HU := hide hu
    have HB := hide bw
    clear hu bw
    by_cases hlt : k + 1 < l.length
    · have hidx := fun w => run_index_at (P := Tryf.prog) (c := c) Tryf.underlying22 size9 HS.out.pl (show k < l.length by omega) w
      have hidx2 := fun w => run_index_at (P := Tryf.prog) (c := c) Tryf.underlying22 size9 HS.out.pl hlt w
      have hc := cell_below HB.out (HS.out.c0 k (by omega)) (HS.out.lt k (by omega))
      have hc2 := cell_below HB.out (HS.out.c0 (k + 1) hlt) (HS.out.lt k (by omega))
      simp only [Nat.mul_one, Int.natCast_add, Int.cast_ofNat_Int] at hidx hidx2
      have ex : ((k : Int) + 1 - 1) = k := by omega
      cases g : Op.bytesLess (nth l k).toList (nth l (k + 1)).toList
      · go_wp2
        go_quiet (fail)
        go_wp2
        go_ret
        exact BoolRet.no rfl (drewN_below HB.out _)
      · go_wp2
        go_quiet (fail)
        go_wp2
        go_roundw
        case rel => exact ⟨k + 1, .inr hlt, by go_num, fun j hj => by
          by_cases e : j = k
          · rw [e]; exact g
          · exact HU.out j (by omega), drewN_below HB.out _⟩
        case measure => simp [intOf]; omega
    · go_wp2
      go_ret
      exact BoolRet.yes rfl HB.out (ups_nodup fun j hj => HU.out j (by omega))
end Go.Proofs.Qxb6628425aFmt
