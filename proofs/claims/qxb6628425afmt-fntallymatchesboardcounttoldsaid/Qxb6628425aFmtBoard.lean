import Derived.Test.Qxb6628425aFmtOne
namespace Go.Proofs.Qxb6628425aFmt
open Go.RowKit

/-- The three counts, of the first k members. -/
def cD (M R : List ByteArray) (k : Nat) : Nat := (M.take k).countP (fun x => !has R x)
def cK (M R Q : List ByteArray) (k : Nat) : Nat := (M.take k).countP (fun x => !has R x && has Q x)
theorem take_nth {M : List ByteArray} {k : Nat} (h : k < M.length) : M.take (k + 1) = M.take k ++ [nth M k] := by rw [List.take_succ_eq_append_getElem h, nth_eq h]
theorem cD_le (M R : List ByteArray) (k : Nat) : cD M R k ≤ M.length := Nat.le_trans List.countP_le_length (by simp; omega)
theorem cK_le (M R Q : List ByteArray) (k : Nat) : cK M R Q k ≤ M.length := Nat.le_trans List.countP_le_length (by simp; omega)
theorem cD_skip {M R : List ByteArray} {k : Nat} (h : k < M.length) (g : has R (nth M k) = true) : cD M R (k + 1) = cD M R k := by simp [cD, take_nth h, g]
theorem cD_more {M R : List ByteArray} {k : Nat} (h : k < M.length) (g : has R (nth M k) = false) : cD M R (k + 1) = cD M R k + 1 := by simp [cD, take_nth h, g]
theorem cK_skip {M R Q : List ByteArray} {k : Nat} (h : k < M.length) (g : has R (nth M k) = true) : cK M R Q (k + 1) = cK M R Q k := by simp [cK, take_nth h, g]
theorem cK_out {M R Q : List ByteArray} {k : Nat} (h : k < M.length) (g' : has Q (nth M k) = false) : cK M R Q (k + 1) = cK M R Q k := by simp [cK, take_nth h, g']
theorem cK_more {M R Q : List ByteArray} {k : Nat} (h : k < M.length) (g : has R (nth M k) = false) (g' : has Q (nth M k) = true) : cK M R Q (k + 1) = cK M R Q k + 1 := by simp [cK, take_nth h, g, g']

theorem cD_all {M R : List ByteArray} (hM : M.Nodup) (hR : R.Nodup) (hs : ∀ x ∈ R, x ∈ M) : (cD M R M.length : Int) = (M.length : Int) - R.length := by
  unfold cD
  rw [List.take_length, List.countP_eq_length_filter]
  have e1 : M.length = (M.filter (fun x => has R x)).length + (M.filter (fun x => !has R x)).length := by
    have := List.length_eq_countP_add_countP (fun x => has R x) (l := M)
    rw [List.countP_eq_length_filter, List.countP_eq_length_filter] at this
    simpa using this
  have e2 : (M.filter (fun x => has R x)).length = R.length := len_eq (hM.filter _) hR fun y => by
    rw [List.mem_filter, has_iff]
    exact ⟨fun h => h.2, fun h => ⟨hs y h, h⟩⟩
  omega
theorem cK_all {M R Q K : List ByteArray} (hM : M.Nodup) (hs : ∀ x ∈ Q, x ∈ M) (hK : K.Nodup) (mK : ∀ x, x ∈ K ↔ x ∈ Q ∧ x ∉ R) : K.length = cK M R Q M.length := by
  unfold cK
  rw [List.take_length, List.countP_eq_length_filter]
  refine len_eq hK (hM.filter _) fun y => ?_
  rw [List.mem_filter, mK, Bool.and_eq_true, Bool.not_eq_true', has_iff, has_not]
  exact ⟨fun h => ⟨hs y h.1, h.2, h.1⟩, fun h => ⟨h.2.2, h.2.1⟩⟩

/-- What the tally says is what the count over the members says. -/
theorem law_board {M R Q U : List ByteArray} {d p f : Int} {q s c : Bool} {E : Value} (h : TVal M R Q U d p f q s c E) (nb : ¬ Bad M Q U) (hM : M.Nodup) (hR : R.Nodup) (hs : ∀ x ∈ R, x ∈ M) :
    E = .nilIface ∧ d = cD M R M.length ∧ p = cK M R Q M.length ∧ f = cK M R U M.length ∧
      q = decide ((cD M R M.length : Int) < 2 * (cK M R Q M.length : Int)) ∧ s = decide ((cK M R Q M.length : Int) < 3) ∧ c = (!decide ((cK M R Q M.length : Int) < 3) && decide ((cD M R M.length : Int) < 2 * (cK M R U M.length : Int))) ∧ cK M R U M.length ≤ cK M R Q M.length := by
  obtain ⟨e, Kp, Kv, n1, m1, n2, m2, rfl, rfl, rfl, rfl, rfl, rfl, _⟩ := tok h nb
  have hQ : ∀ x ∈ Q, x ∈ M := fun x hx => Classical.byContradiction fun hn => nb (.inl ⟨x, hx, hn⟩)
  have hU : ∀ x ∈ U, x ∈ Q := fun x hx => Classical.byContradiction fun hn => nb (.inr ⟨x, hx, hn⟩)
  have kp := cK_all hM hQ n1 m1
  have kv := cK_all hM (fun x hx => hQ x (hU x hx)) n2 m2
  rw [← cD_all hM hR hs, kp, kv]
  exact ⟨e, rfl, rfl, rfl, rfl, rfl, rfl, by rw [← kp, ← kv]; exact n2.length_le_of_subset fun x hx => (m1 x).2 ⟨hU x ((m2 x).1 hx).1, ((m2 x).1 hx).2⟩⟩
theorem bad_of {M Q U : List ByteArray} {b : Bool} {b0 : Bool} (h0 : b0 = true ↔ ∃ j, j < Q.length ∧ has M (nth Q j) = false) (h : b = true ↔ b0 = true ∨ ∃ j, j < U.length ∧ has Q (nth U j) = false) : b = true ↔ Bad M Q U := by
  rw [h, h0]
  constructor
  · rintro (⟨j, hj, g⟩ | ⟨j, hj, g⟩)
    · exact .inl ⟨_, has_iff.1 (has_nth hj), has_not.1 g⟩
    · exact .inr ⟨_, has_iff.1 (has_nth hj), has_not.1 g⟩
  · rintro (⟨x, hx, hn⟩ | ⟨x, hx, hn⟩)
    · obtain ⟨j, hj, e⟩ := List.getElem_of_mem hx
      exact .inl ⟨j, hj, by rw [nth_eq hj, e]; exact has_not.2 hn⟩
    · obtain ⟨j, hj, e⟩ := List.getElem_of_mem hx
      exact .inr ⟨j, hj, by rw [nth_eq hj, e]; exact has_not.2 hn⟩
end Go.Proofs.Qxb6628425aFmt
