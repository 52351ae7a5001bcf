import Derived.Test.Qxb6628366aMem
namespace Go.Proofs.Qxb6628366a
open Go.RowKit

def own (x n : Int) : Bool := decide (0 ≤ x ∧ x < n)

theorem isOwner (x n : Int) (w : World) : Calls Try.prog 9 #[.int .i64 x, .int .i64 n] w fun e w' => e = .returned (.bool (own x n)) ∧ w' = w := by
  by_cases h0 : 0 ≤ x
  · by_cases h1 : x < n
    · go_enter Try.func9, Try.ntmps9
      go_wp2
      go_ret
      exact ⟨by simp [own, h0, h1], rfl⟩
    · go_enter Try.func9, Try.ntmps9
      go_wp2
      go_ret
      exact ⟨by simp [own, h0, h1], rfl⟩
  · have e : own x n = false := by simp [own]; omega
    go_enter Try.func9, Try.ntmps9
    go_wp2
    go_ret
    exact ⟨rfl, rfl⟩

/-- The documented shape of an entry. -/
structure Shape (h : LVer) (on : Nat) (V : Nat → LVer) (n : Int) : Prop where
  wr : ∀ i, i < on → own (V i).writer n = false
  fin : ∀ i, i < on → ((V i).com == 18446744073709551615) = false
  inc : ∀ j, j < on → ∀ i, i < j → (V i).com < (V j).com
  top : own h.writer n = false → ∀ i, i < on → (V i).com < h.com

set_option maxRecDepth 100000 in
set_option maxHeartbeats 4000000 in
theorem validShape (h : LVer) (oa : Option Addr) (on oc : Nat) (V : Nat → LVer) (n : Int) (w : World)
    (ho : VersIn w oa on V) (bo : on ≤ maxLen) :
    Calls Try.prog 7 #[.agg #[.slice h.ra h.rn h.rc, .bool h.ghost, .int .i64 h.writer, .int .u64 h.com], .slice oa on oc, .int .i64 n] w (BoolRet w (Shape h on V n)) := by
  unfold maxLen at bo
  have HO : Hid (VersIn w oa on V) := ho
  clear ho
  go_enter Try.func7, Try.ntmps7
  go_wp2
  go_loop [7, 8, 9] (fun p i _ => ∃ (k : Nat) (q : Int), k ≤ on ∧ i = .int .i64 k ∧ p = .int .u64 q ∧ (∀ j, j < k → own (V j).writer n = false ∧ ((V j).com == 18446744073709551615) = false ∧ (V j).com ≤ q) ∧ (∀ j, j < k → ∀ i, i < j → (V i).com < (V j).com)) (fun _ i _ => on - (intOf i).toNat)
  case atStart => exact ⟨0, 0, Nat.zero_le _, rfl, rfl, fun j hj => by omega, fun j hj => by omega⟩
  case round =>
    obtain ⟨k, q, hk, rfl, rfl, h1, h2⟩ := hrel
    have H1 : Hid (∀ j, j < k → own (V j).writer n = false ∧ ((V j).com == 18446744073709551615) = false ∧ (V j).com ≤ q) := h1
    have H2 : Hid (∀ j, j < k → ∀ i, i < j → (V i).com < (V j).com) := h2
    clear h1 h2
    by_cases hlt : k < on
    · have hidx := fun w => run_index_at (P := Try.prog) (c := oc) Try.underlying26 size25 HO.out.pl hlt w
      have hc2 := HO.out.c2 k hlt
      have hc3 := HO.out.c3 k hlt
      have hl := HO.out.lt k hlt
      cases g1 : own (V k).writer n
      · cases g2 : (V k).com == 0
        · cases g3 : (V k).com == 18446744073709551615
          · by_cases g4 : (V k).com ≤ q
            · go_wp2_with (go_at_call 9; refine (isOwner _ _ _).mono ?_; rintro e w' ⟨rfl, rfl⟩)
              go_ret
              exact BoolRet.no rfl (below1 _ _)
            · go_wp2_with (go_at_call 9; refine (isOwner _ _ _).mono ?_; rintro e w' ⟨rfl, rfl⟩)
              go_round
              case rel => exact ⟨k + 1, (V k).com, by omega, by go_num, rfl, fun j hj => by
                  by_cases e : j = k
                  · subst e; exact ⟨g1, g3, by omega⟩
                  · have := H1.out j (by omega); exact ⟨this.1, this.2.1, by omega⟩, fun j hj i hi => by
                  by_cases e : j = k
                  · subst e; have := H1.out i (by omega); omega
                  · exact H2.out j (by omega) i hi⟩
              case measure => simp [intOf]; omega
          · go_wp2_with (go_at_call 9; refine (isOwner _ _ _).mono ?_; rintro e w' ⟨rfl, rfl⟩)
            go_ret
            exact BoolRet.no rfl (below1 _ _)
        · go_wp2_with (go_at_call 9; refine (isOwner _ _ _).mono ?_; rintro e w' ⟨rfl, rfl⟩)
          go_ret
          exact BoolRet.no rfl (below1 _ _)
      · go_wp2_with (go_at_call 9; refine (isOwner _ _ _).mono ?_; rintro e w' ⟨rfl, rfl⟩)
        go_ret
        exact BoolRet.no rfl (below1 _ _)
    · obtain rfl : k = on := by omega
      cases g1 : own h.writer n
      · cases g2 : h.com == 0
        · have g2' : (h.com != 0) = true := by simp [bne, g2]
          cases g3 : h.com == 18446744073709551615
          · have g3' : (h.com != 18446744073709551615) = true := by simp [bne, g3]
            by_cases g4 : q < h.com
            · go_wp2_with (go_at_call 9; refine (isOwner _ _ _).mono ?_; rintro e w' ⟨rfl, rfl⟩)
              go_ret
              exact BoolRet.yes rfl (below1 _ _) ⟨fun i hi => (H1.out i hi).1, fun i hi => (H1.out i hi).2.1, H2.out, fun _ i hi => by have := (H1.out i hi).2.2; omega⟩
            · have d4 : decide (q < h.com) = false := decide_eq_false g4
              go_wp2_with (go_at_call 9; refine (isOwner _ _ _).mono ?_; rintro e w' ⟨rfl, rfl⟩)
              go_ret
              exact BoolRet.no rfl (below1 _ _)
          · have g3' : (h.com != 18446744073709551615) = false := by simp [bne, g3]
            go_wp2_with (go_at_call 9; refine (isOwner _ _ _).mono ?_; rintro e w' ⟨rfl, rfl⟩)
            go_ret
            exact BoolRet.no rfl (below1 _ _)
        · have g2' : (h.com != 0) = false := by simp [bne, g2]
          go_wp2_with (go_at_call 9; refine (isOwner _ _ _).mono ?_; rintro e w' ⟨rfl, rfl⟩)
          go_ret
          exact BoolRet.no rfl (below1 _ _)
      · cases g2 : h.com == 0
        · go_wp2_with (go_at_call 9; refine (isOwner _ _ _).mono ?_; rintro e w' ⟨rfl, rfl⟩)
          go_ret
          exact BoolRet.no rfl (below1 _ _)
        · go_wp2_with (go_at_call 9; refine (isOwner _ _ _).mono ?_; rintro e w' ⟨rfl, rfl⟩)
          go_ret
          exact BoolRet.yes rfl (below1 _ _) ⟨fun i hi => (H1.out i hi).1, fun i hi => (H1.out i hi).2.1, H2.out, fun h => by rw [g1] at h; cases h⟩
end Go.Proofs.Qxb6628366a
