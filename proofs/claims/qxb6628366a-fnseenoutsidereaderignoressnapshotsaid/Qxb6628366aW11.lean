import Derived.Test.Qxb6628366aW10
import Derived.Test.Qxb6628366aW4
import Derived.LaidEqlPtr
namespace Go.Proofs.Qxb6628366a
open Go.RowKit

theorem eql_nil_ptr {P : Program} {t e : TypeId} (h : P.underlying t = some (.pointer e)) (q : Option Addr) (w : World) : (binOp .eql t (.pointer none) (.pointer q)).run P w = .ok (.bool q.isNone) w := by
  have h' : ∀ d : Nat, (Op.equalIn (d + 1) t (.pointer none) (.pointer q)).run P w = .ok q.isNone w := fun d => by
    simp [Op.equalIn, run_underlying h]
  simp only [binOp]
  simp [Op.equal, Op.maxDepth, h' 9999]
theorem eql_ptr_nil {P : Program} {t e : TypeId} (h : P.underlying t = some (.pointer e)) (q : Option Addr) (w : World) : (binOp .eql t (.pointer q) (.pointer none)).run P w = .ok (.bool q.isNone) w := by
  have h' : ∀ d : Nat, (Op.equalIn (d + 1) t (.pointer q) (.pointer none)).run P w = .ok q.isNone w := fun d => by
    cases q <;> simp [Op.equalIn, run_underlying h]
  simp only [binOp]
  simp [Op.equal, Op.maxDepth, h' 9999]

theorem info64 : ∃ j, Try.prog.info? 64 = some j ∧ j.size = 1 := by
  have h : (Try.prog.info? 64).map (·.size) = some 1 := by kernel_rfl
  cases hj : Try.prog.info? 64 with
  | none => rw [hj] at h; cases h
  | some j => rw [hj] at h; exact ⟨j, rfl, by simpa using h⟩

/-- Two owners' pointers are equal just where the owners are one. -/
theorem eql_owners {w : World} {oa : Option Addr} {n : Nat} {p : Nat → Nat} {S : Nat → Bool} (ho : OwnersIn w oa n p S) (i j : Nat) (hi : i < n) (hj : j < n) :
    (binOp .eql 35 (.pointer (some ⟨p i, 0, none⟩)) (.pointer (some ⟨p j, 0, none⟩))).run Try.prog w = .ok (.bool (i == j)) w := by
  obtain ⟨d, hd, hs⟩ := info64
  by_cases e : i = j
  · subst e
    rw [run_eql_ptr_same w _ Try.underlying35 hd]
    simp
  · have hne : p i ≠ p j := by
      rcases Nat.lt_or_ge i j with g | g
      · exact ho.inj j hj i g
      · exact (ho.inj i hi j (by omega)).symm
    rw [run_eql_ptr_other w Try.underlying35 hd (by omega) (fun h => hne (by injection h)) (ho.bl i hi) (ho.bl j hj)]
    simp [e]

/-- Does the reader pass over a version of this writer and this number? -/
def passed (S : Nat → Bool) (n x c r snap : Int) : Bool :=
  if own x n then (if own r n && x == r then false else (snap != 18446744073709551615) || !S x.toNat) else own r n && decide (snap < c)

set_option maxRecDepth 100000 in
set_option maxHeartbeats 4000000 in
theorem passedBy (vb : Nat) (x c r snap : Int) (oa : Option Addr) (n : Nat) (p : Nat → Nat) (S : Nat → Bool) (w : World) (ho : OwnersIn w oa n p S)
    (c2 : w.cell? ⟨vb, 2, none⟩ = some (.pointer (wptr p n x))) (c3 : w.cell? ⟨vb, 3, none⟩ = some (.int .u64 c)) :
    Calls Try.prog 19 #[.pointer (some ⟨vb, 0, none⟩), .pointer (wptr p n r), .int .u64 snap] w fun e w' => e = .returned (.bool (passed S n x c r snap)) ∧ w' = w := by
  have HO : Hid (OwnersIn w oa n p S) := ho
  clear ho
  cases g1 : own x n
  · have e1 : wptr p n x = none := by simp [wptr, g1]
    rw [e1] at c2
    clear e1
    cases g2 : own r n
    · have e2 : wptr p n r = none := by simp [wptr, g2]
      have HP : Hid (passed S n x c r snap = false) := by simp [Hid, passed, g1, g2]
      rw [e2]
      clear e2
      go_enter Try.func19, Try.ntmps19
      go_wp2
      go_ret
      exact ⟨by rw [HP.out]; rfl, rfl⟩
    · have e2 : wptr p n r = some ⟨p r.toNat, 0, none⟩ := by simp [wptr, g2]
      rw [e2]
      clear e2
      have heq := fun w => eql_nil_ptr (P := Try.prog) Try.underlying35 (some ⟨p r.toNat, 0, none⟩) w
      by_cases g3 : snap < c
      · have HP : Hid (passed S n x c r snap = true) := by simp [Hid, passed, g1, g2, g3]
        go_enter Try.func19, Try.ntmps19
        go_wp2
        go_ret
        exact ⟨by rw [HP.out]; simp, rfl⟩
      · have HP : Hid (passed S n x c r snap = false) := by simp [Hid, passed, g1, g2, g3]
        have d3 : decide (snap < c) = false := decide_eq_false g3
        go_enter Try.func19, Try.ntmps19
        go_wp2
        go_ret
        exact ⟨by rw [HP.out]; rfl, rfl⟩
  · have e1 : wptr p n x = some ⟨p x.toNat, 0, none⟩ := by simp [wptr, g1]
    rw [e1] at c2
    clear e1
    have hbx : 0 ≤ x ∧ x < n := by simpa [own] using g1
    obtain ⟨hx0, hx1⟩ := hbx
    have hcx := HO.out.c1 x.toNat (by omega)
    have main : ∀ q : Option Addr, (binOp .eql 35 (.pointer (some ⟨p x.toNat, 0, none⟩)) (.pointer q)).run Try.prog w = .ok (.bool false) w → passed S n x c r snap = ((snap != 18446744073709551615) || !S x.toNat) →
        Calls Try.prog 19 #[.pointer (some ⟨vb, 0, none⟩), .pointer q, .int .u64 snap] w fun e w' => e = .returned (.bool (passed S n x c r snap)) ∧ w' = w := by
      intro q heq hp
      have HP : Hid (passed S n x c r snap = ((snap != 18446744073709551615) || !S x.toNat)) := hp
      clear hp
      cases g3 : snap != 18446744073709551615
      · cases g4 : S x.toNat
        · have HQ : Hid (passed S n x c r snap = true) := by rw [HP.out, g3, g4]; rfl
          go_enter Try.func19, Try.ntmps19
          go_wp2_with (go_at_call 22; refine (boolLoad _ _ (S x.toNat) _ hcx).mono ?_; rintro e w' ⟨rfl, rfl⟩)
          go_ret
          exact ⟨by rw [HQ.out]; rfl, rfl⟩
        · have HQ : Hid (passed S n x c r snap = false) := by rw [HP.out, g3, g4]; rfl
          go_enter Try.func19, Try.ntmps19
          go_wp2_with (go_at_call 22; refine (boolLoad _ _ (S x.toNat) _ hcx).mono ?_; rintro e w' ⟨rfl, rfl⟩)
          go_ret
          exact ⟨by rw [HQ.out]; rfl, rfl⟩
      · have HQ : Hid (passed S n x c r snap = true) := by rw [HP.out, g3]; rfl
        go_enter Try.func19, Try.ntmps19
        go_wp2
        go_ret
        exact ⟨by rw [HQ.out]; rfl, rfl⟩
    cases g2 : own r n
    · have e2 : wptr p n r = none := by simp [wptr, g2]
      rw [e2]
      exact main none (eql_ptr_nil (P := Try.prog) Try.underlying35 _ w) (by simp [passed, g1, g2])
    · have e2 : wptr p n r = some ⟨p r.toNat, 0, none⟩ := by simp [wptr, g2]
      have hbr : 0 ≤ r ∧ r < n := by simpa [own] using g2
      rw [e2]
      have heq := eql_owners HO.out x.toNat r.toNat (by omega) (by omega)
      by_cases g5 : x = r
      · subst g5
        have HP : Hid (passed S n x c x snap = false) := by simp [Hid, passed, g1]
        clear main e2
        simp only [BEq.rfl] at heq
        go_enter Try.func19, Try.ntmps19
        go_wp2
        go_ret
        exact ⟨by rw [HP.out]; rfl, rfl⟩
      · have e3 : (x.toNat == r.toNat) = false := by simp; omega
        rw [e3] at heq
        exact main _ heq (by simp [passed, g1, g5])
end Go.Proofs.Qxb6628366a
