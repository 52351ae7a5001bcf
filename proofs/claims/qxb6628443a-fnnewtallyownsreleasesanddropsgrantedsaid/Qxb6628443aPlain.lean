/-
  Seat b6628443a. The plain law of 'the last of each key': a list of entries, one a key.
-/
import Derived.Test.Qxb6628443aW4
namespace Go.Proofs.Qxb6628443a

/-- The key's entry is laid, in its own place or behind all. -/
def putL {κ : Type} [DecidableEq κ] (k : κ) (v : Value) : List (κ × Value) → List (κ × Value)
  | [] => [(k, v)]
  | (k', v') :: l => if k' = k then (k, v) :: l else (k', v') :: putL k v l
def look {κ : Type} [DecidableEq κ] (k : κ) : List (κ × Value) → Option Value
  | [] => none
  | (k', v') :: l => if k' = k then some v' else look k l
/-- The entries after the first n places. -/
def foldL {κ : Type} [DecidableEq κ] (ks : Nat → κ) (vs : Nat → Value) : Nat → List (κ × Value)
  | 0 => []
  | n + 1 => putL (ks n) (vs n) (foldL ks vs n)

variable {κ : Type} [DecidableEq κ]

theorem look_same (k : κ) (v : Value) : ∀ l, look k (putL k v l) = some v
  | [] => by simp [putL, look]
  | (k', v') :: l => by
    by_cases h : k' = k
    · simp [putL, look, h]
    · simp [putL, look, h, look_same k v l]
theorem look_other {k k' : κ} (v : Value) (h : k' ≠ k) : ∀ l, look k (putL k' v l) = look k l
  | [] => by simp [putL, look, h]
  | (q, u) :: l => by
    by_cases e : q = k'
    · subst e; simp [putL, look, h]
    · simp [putL, look, e, look_other v h l]
theorem look_fold (ks : Nat → κ) (vs : Nat → Value) : ∀ n i, i < n → (∀ j, i < j → j < n → ks j ≠ ks i) → look (ks i) (foldL ks vs n) = some (vs i)
  | 0, _, h, _ => by omega
  | n + 1, i, hi, hl => by
    by_cases e : i = n
    · subst e; exact look_same _ _ _
    · rw [foldL, look_other _ (hl n (by omega) (by omega))]
      exact look_fold ks vs n i (by omega) fun j h1 h2 => hl j h1 (by omega)
theorem no_later {ks : Nat → κ} {n i : Nat} (h : laterB ks n i = false) : ∀ j, i < j → j < n → ks j ≠ ks i := fun j h1 h2 e => by
  rw [laterB_yes h1 h2 e] at h; cases h
/-- Each key's last value is found. -/
theorem look_last {ks : Nat → κ} {vs : Nat → Value} {n i : Nat} (hi : i < n) (h : laterB ks n i = false) : look (ks i) (foldL ks vs n) = some (vs i) :=
  look_fold ks vs n i hi (no_later h)

theorem mem_putL (k : κ) (v : Value) (q : κ) : ∀ l, q ∈ (putL k v l).map (·.1) ↔ q = k ∨ q ∈ l.map (·.1)
  | [] => by simp [putL]
  | (k', v') :: l => by
    by_cases h : k' = k
    · subst h; simp [putL]
    · have := mem_putL k v q l
      simp only [putL, h, if_false, List.map_cons, List.mem_cons, this]
      constructor
      · rintro (h | h | h)
        · exact .inr (.inl h)
        · exact .inl h
        · exact .inr (.inr h)
      · rintro (h | h | h)
        · exact .inr (.inl h)
        · exact .inl h
        · exact .inr (.inr h)
theorem nodup_putL (k : κ) (v : Value) : ∀ l : List (κ × Value), (l.map (·.1)).Nodup → ((putL k v l).map (·.1)).Nodup
  | [], _ => by simp [putL]
  | (k', v') :: l, hn => by
    simp only [List.map_cons, List.nodup_cons] at hn
    by_cases h : k' = k
    · subst h
      simp only [putL, if_true, List.map_cons, List.nodup_cons]
      exact hn
    · simp only [putL, h, if_false, List.map_cons, List.nodup_cons]
      refine ⟨fun hm => ?_, nodup_putL k v l hn.2⟩
      rcases (mem_putL k v k' l).1 hm with e | e
      · exact h e
      · exact hn.1 e
theorem nodup_fold (ks : Nat → κ) (vs : Nat → Value) : ∀ n, ((foldL ks vs n).map (·.1)).Nodup
  | 0 => by simp [foldL]
  | n + 1 => nodup_putL _ _ _ (nodup_fold ks vs n)
theorem mem_fold (ks : Nat → κ) (vs : Nat → Value) (q : κ) : ∀ n, q ∈ (foldL ks vs n).map (·.1) ↔ ∃ i, i < n ∧ ks i = q
  | 0 => by simp [foldL]
  | n + 1 => by
    rw [foldL, mem_putL, mem_fold ks vs q n]
    constructor
    · rintro (rfl | ⟨i, h, e⟩)
      · exact ⟨n, by omega, rfl⟩
      · exact ⟨i, by omega, e⟩
    · rintro ⟨i, h, e⟩
      by_cases g : i = n
      · subst g; exact .inl e.symm
      · exact .inr ⟨i, by omega, e⟩
/-- How many of the first k places have no later place with their key. -/
def cnt (ks : Nat → κ) (n k : Nat) : Nat := ((List.range k).filter (fun i => !laterB ks n i)).length
theorem cnt_zero (ks : Nat → κ) (n : Nat) : cnt ks n 0 = 0 := rfl
theorem cnt_le (ks : Nat → κ) (n k : Nat) : cnt ks n k ≤ k := by
  have := List.length_filter_le (fun i => !laterB ks n i) (List.range k)
  rwa [List.length_range] at this
theorem cnt_later {ks : Nat → κ} {n k : Nat} (h : laterB ks n k = true) : cnt ks n (k + 1) = cnt ks n k := by
  simp [cnt, List.range_succ, List.filter_append, h]
theorem cnt_last {ks : Nat → κ} {n k : Nat} (h : laterB ks n k = false) : cnt ks n (k + 1) = cnt ks n k + 1 := by
  simp [cnt, List.range_succ, List.filter_append, h]
theorem last_of (ks : Nat → κ) (n : Nat) : ∀ d i, n - i = d → i < n → ∃ j, j < n ∧ laterB ks n j = false ∧ ks j = ks i := by
  intro d
  induction d using Nat.strongRecOn with
  | ind d ih =>
    intro i hd hi
    cases h : laterB ks n i
    · exact ⟨i, hi, h, rfl⟩
    · rw [laterB, List.any_eq_true] at h
      obtain ⟨j, hj, e⟩ := h
      simp only [Bool.and_eq_true, decide_eq_true_eq] at e
      have hj := List.mem_range.1 hj
      obtain ⟨m, h1, h2, h3⟩ := ih (n - j) (by omega) j rfl hj
      exact ⟨m, h1, h2, h3.trans e.2⟩
/-- There are as many entries as places that are the last of their key. -/
theorem len_fold (ks : Nat → κ) (vs : Nat → Value) (n : Nat) : (foldL ks vs n).length = cnt ks n n := by
  have hp : (((foldL ks vs n).map (·.1)).Perm (((List.range n).filter (fun i => !laterB ks n i)).map ks)) := by
    rw [List.perm_ext_iff_of_nodup (nodup_fold ks vs n)]
    · intro q
      rw [mem_fold]
      simp only [List.mem_map, List.mem_filter, List.mem_range, Bool.not_eq_true']
      constructor
      · rintro ⟨i, hi, rfl⟩
        obtain ⟨j, h1, h2, h3⟩ := last_of ks n _ i rfl hi
        exact ⟨j, ⟨h1, h2⟩, h3⟩
      · rintro ⟨i, ⟨h1, _⟩, h3⟩
        exact ⟨i, h1, h3⟩
    · rw [List.Nodup, List.pairwise_map, List.pairwise_filter]
      refine (List.pairwise_lt_range (n := n)).imp_of_mem ?_
      intro a b ha hb hlt h1 h2 e
      rw [Bool.not_eq_true'] at h1
      exact no_later h1 b hlt (List.mem_range.1 hb) e.symm
  have := hp.length_eq
  simpa [cnt] using this
end Go.Proofs.Qxb6628443a
