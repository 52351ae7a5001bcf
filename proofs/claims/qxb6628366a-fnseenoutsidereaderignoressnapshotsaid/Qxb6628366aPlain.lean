import Derived.Test.Qxb6628366aW12
namespace Go.Proofs.Qxb6628366a

theorem lastVis_iff (q : Nat → Bool) (m j : Nat) : lastVis q m = some j ↔ j < m ∧ q j = true ∧ ∀ k, j < k → k < m → q k = false := by
  induction m with
  | zero => simp [lastVis]
  | succ m ih =>
    unfold lastVis
    by_cases e : q m = true
    · rw [if_pos e]
      constructor
      · intro h; cases h; exact ⟨by omega, e, fun k h1 h2 => by omega⟩
      · rintro ⟨h1, _, h3⟩
        by_cases hj : j = m
        · rw [hj]
        · have := h3 m (by omega) (by omega); rw [e] at this; cases this
    · rw [if_neg e, ih]
      constructor
      · rintro ⟨h1, h2, h3⟩
        refine ⟨by omega, h2, fun k k1 k2 => ?_⟩
        by_cases hk : k = m
        · rw [hk]; simpa using e
        · exact h3 k k1 (by omega)
      · rintro ⟨h1, h2, h3⟩
        have hj : j ≠ m := fun hj => by rw [hj] at h2; exact e h2
        exact ⟨by omega, h2, fun k k1 k2 => h3 k k1 (by omega)⟩

theorem lastVis_congr {q q' : Nat → Bool} (m : Nat) (h : ∀ k, k < m → q k = q' k) : lastVis q m = lastVis q' m := by
  induction m with
  | zero => rfl
  | succ m ih => unfold lastVis; rw [h m (by omega), ih (fun k hk => h k (by omega))]

theorem ver_old {h : LVer} {on : Nat} {V : Nat → LVer} {k : Nat} (hk : k < on) : ver h on V k = V k := if_neg (by omega)
theorem ver_top {h : LVer} {on : Nat} {V : Nat → LVer} : ver h on V on = h := if_pos rfl

theorem passed_old {S : Nat → Bool} {n x c r snap : Int} (hx : own x n = false) : passed S n x c r snap = !vis r n snap c := by
  unfold passed vis
  rw [hx]
  cases own r n
  · simp
  · by_cases h : snap < c
    · simp [h]
    · have : c ≤ snap := by omega
      simp [h, this]
theorem passed_open {S : Nat → Bool} {n r snap : Int} {h : LVer} (hx : own h.writer n = true) : passed S n h.writer h.com r snap = !openSeen h S n r snap := by
  unfold passed openSeen
  rw [hx]
  cases own r n <;> cases h.writer == r <;> cases e : snap == 18446744073709551615 <;> cases S h.writer.toNat <;> simp [bne, e]

def encSeen (on : Nat) : Option Nat → Int
  | none => -2
  | some j => if j = on then -1 else j

theorem seenIdx_old {S : Nat → Bool} {n : Int} {h : LVer} {on : Nat} {V : Nat → LVer} {r snap : Int} (sh : Shape h on V n) : seenIdx S n h on V r snap on = lastVis (fun k => vis r n snap (V k).com) on := by
  unfold seenIdx
  refine lastVis_congr on fun k hk => ?_
  rw [ver_old hk, passed_old (sh.wr k hk)]
  simp

/-- THE PLAIN LAW: the model's answer is the version that 'Seen' comes to. -/
theorem model_eq {S : Nat → Bool} {n : Int} {h : LVer} {on : Nat} {V : Nat → LVer} {r snap : Int} (sh : Shape h on V n) : model h on V S n r snap = encSeen on (seenIdx S n h on V r snap (on + 1)) := by
  have e1 : seenIdx S n h on V r snap (on + 1) = if !passed S n h.writer h.com r snap then some on else lastVis (fun k => vis r n snap (V k).com) on := by
    rw [← seenIdx_old (S := S) sh]
    unfold seenIdx
    rw [lastVis]
    simp only [ver_top]
  have e2 : enc (lastVis (fun k => vis r n snap (V k).com) on) = encSeen on (lastVis (fun k => vis r n snap (V k).com) on) := by
    cases e : lastVis (fun k => vis r n snap (V k).com) on with
    | none => rfl
    | some j => have := lastVis_lt e; simp [enc, encSeen]; omega
  rw [e1]
  unfold model
  cases g : own h.writer n
  · rw [passed_old g]
    cases vis r n snap h.com
    · simp [e2]
    · simp [encSeen]
  · rw [passed_open g]
    cases openSeen h S n r snap
    · simp [e2]
    · simp [encSeen]

/-- Reading again at exactly its number gives the same committed version. -/
theorem seen_again {S : Nat → Bool} {n : Int} {h : LVer} {on : Nat} {V : Nat → LVer} {r snap : Int} (sh : Shape h on V n) {j : Nat} (hj : seenIdx S n h on V r snap (on + 1) = some j) (hw : own (ver h on V j).writer n = false) :
    seenIdx S n h on V r (ver h on V j).com (on + 1) = some j := by
  unfold seenIdx at hj ⊢
  rw [lastVis_iff] at hj ⊢
  obtain ⟨h1, h2, h3⟩ := hj
  refine ⟨h1, ?_, fun k k1 k2 => ?_⟩
  · rw [passed_old hw]; simp [vis]
  · have hk := h3 k k1 k2
    have hjo : j < on := by omega
    rw [ver_old hjo]
    by_cases e : k = on
    · subst e
      rw [ver_top] at hk ⊢
      cases g : own h.writer n
      · rw [passed_old g] at hk ⊢
        have ht := sh.top g j hjo
        simp [vis] at hk ⊢
        exact ⟨hk.1, ht⟩
      · have hf := sh.fin j hjo
        unfold passed at hk ⊢
        rw [g] at hk ⊢
        simp only [if_true] at hk ⊢
        cases e1 : own r n && h.writer == r
        · simp [bne, hf]
        · rw [e1] at hk; simp at hk
    · have hko : k < on := by omega
      rw [ver_old hko, passed_old (sh.wr k hko)] at hk ⊢
      have hi := sh.inc k hko j k1
      simp [vis] at hk ⊢
      exact ⟨hk.1, hi⟩
end Go.Proofs.Qxb6628366a
