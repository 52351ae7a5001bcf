import Derived.Test.Qxb6628475aW2
namespace Go.Proofs.Qxb6628475a
open Go.RowKit

/-- One byte put in. -/
def put0 (x c : Nat) : Nat := if c / 64 = 0 then x ||| 2 ^ (c % 64) else x
def put1 (x c : Nat) : Nat := if c / 64 = 1 then x ||| 2 ^ (c % 64) else x
/-- The set's two words, of the first k bytes. -/
def c0 (s : ByteArray) : Nat → Nat
  | 0 => 0
  | k + 1 => put0 (c0 s k) (byt s k)
def c1 (s : ByteArray) : Nat → Nat
  | 0 => 0
  | k + 1 => put1 (c1 s k) (byt s k)
theorem bit_lt (c : Nat) : 2 ^ (c % 64) < 2 ^ 64 := Nat.pow_lt_pow_right (by omega) (Nat.mod_lt _ (by omega))
theorem put0_lt {x c : Nat} (h : x < 2 ^ 64) : put0 x c < 2 ^ 64 := by
  unfold put0
  split
  · exact Nat.or_lt_two_pow h (bit_lt c)
  · exact h
theorem put1_lt {x c : Nat} (h : x < 2 ^ 64) : put1 x c < 2 ^ 64 := by
  unfold put1
  split
  · exact Nat.or_lt_two_pow h (bit_lt c)
  · exact h
theorem c0_lt (s : ByteArray) : ∀ k, c0 s k < 2 ^ 64
  | 0 => by show 0 < 2 ^ 64; omega
  | k + 1 => put0_lt (c0_lt s k)
theorem c1_lt (s : ByteArray) : ∀ k, c1 s k < 2 ^ 64
  | 0 => by show 0 < 2 ^ 64; omega
  | k + 1 => put1_lt (c1_lt s k)
/-- c is among the first k bytes. -/
def InK (s : ByteArray) (k c : Nat) : Prop := ∃ i, i < k ∧ byt s i = c
theorem inK_succ {s : ByteArray} {k c : Nat} : InK s (k + 1) c ↔ byt s k = c ∨ InK s k c := by
  constructor
  · rintro ⟨i, hi, e⟩
    by_cases h : i = k
    · subst h; exact .inl e
    · exact .inr ⟨i, by omega, e⟩
  · rintro (e | ⟨i, hi, e⟩)
    · exact ⟨k, by omega, e⟩
    · exact ⟨i, by omega, e⟩
theorem pow_bit (n j : Nat) : (2 ^ n).testBit j = true ↔ n = j := by rw [Nat.testBit_two_pow]; simp
theorem c0_bit (s : ByteArray) (j : Nat) (hj : j < 64) : ∀ k, (c0 s k).testBit j = true ↔ InK s k j
  | 0 => by simp [c0, InK]
  | k + 1 => by
    have ih := c0_bit s j hj k
    rw [inK_succ, ← ih]
    simp only [c0, put0]
    split
    · rw [Nat.testBit_or, Bool.or_eq_true, pow_bit]
      constructor
      · rintro (h | h)
        · exact .inr h
        · exact .inl (by omega)
      · rintro (h | h)
        · exact .inr (by omega)
        · exact .inl h
    · constructor
      · exact fun h => .inr h
      · rintro (h | h)
        · omega
        · exact h
theorem c1_bit (s : ByteArray) (j : Nat) (hj : j < 64) : ∀ k, (c1 s k).testBit j = true ↔ InK s k (64 + j)
  | 0 => by simp [c1, InK]
  | k + 1 => by
    have ih := c1_bit s j hj k
    rw [inK_succ, ← ih]
    simp only [c1, put1]
    split
    · rw [Nat.testBit_or, Bool.or_eq_true, pow_bit]
      constructor
      · rintro (h | h)
        · exact .inr h
        · exact .inl (by omega)
      · rintro (h | h)
        · exact .inr (by omega)
        · exact .inl h
    · constructor
      · exact fun h => .inr h
      · rintro (h | h)
        · omega
        · exact h
/-- Two words of 64 bits with the same bits are one. -/
theorem word_ext {x y : Nat} (hx : x < 2 ^ 64) (hy : y < 2 ^ 64) (h : ∀ j, j < 64 → (x.testBit j = true ↔ y.testBit j = true)) : x = y := by
  apply Nat.eq_of_testBit_eq
  intro j
  by_cases hj : j < 64
  · have := h j hj
    cases hx' : x.testBit j <;> cases hy' : y.testBit j <;> simp_all
  · rw [Nat.testBit_lt_two_pow (Nat.lt_of_lt_of_le hx (Nat.pow_le_pow_right (by omega) (by omega))), Nat.testBit_lt_two_pow (Nat.lt_of_lt_of_le hy (Nat.pow_le_pow_right (by omega) (by omega)))]
/-- The whole sets. -/
def C0 (s : ByteArray) : Nat := c0 s s.size
def C1 (s : ByteArray) : Nat := c1 s s.size
theorem C0_bit {s : ByteArray} {j : Nat} (hj : j < 64) : (C0 s).testBit j = true ↔ Occ s j := c0_bit s j hj _
theorem C1_bit {s : ByteArray} {j : Nat} (hj : j < 64) : (C1 s).testBit j = true ↔ Occ s (64 + j) := c1_bit s j hj _
theorem C0_lt (s : ByteArray) : C0 s < 2 ^ 64 := c0_lt s _
theorem C1_lt (s : ByteArray) : C1 s < 2 ^ 64 := c1_lt s _
theorem C_eq {s t : ByteArray} (h : ∀ c, c < 128 → (Occ s c ↔ Occ t c)) : C0 s = C0 t ∧ C1 s = C1 t :=
  ⟨word_ext (C0_lt s) (C0_lt t) fun j hj => by rw [C0_bit hj, C0_bit hj]; exact h j (by omega), word_ext (C1_lt s) (C1_lt t) fun j hj => by rw [C1_bit hj, C1_bit hj]; exact h (64 + j) (by omega)⟩
theorem C_back {s t : ByteArray} (h0 : C0 s = C0 t) (h1 : C1 s = C1 t) (c : Nat) (hc : c < 128) : Occ s c ↔ Occ t c := by
  by_cases h : c < 64
  · rw [← C0_bit h, ← C0_bit h, h0]
  · obtain ⟨j, rfl⟩ : ∃ j, c = 64 + j := ⟨c - 64, by omega⟩
    rw [← C1_bit (by omega), ← C1_bit (by omega), h1]
theorem or_eq {x y z : Nat} (hx : x < 2 ^ 64) (hy : y < 2 ^ 64) (hz : z < 2 ^ 64) (h : ∀ j, j < 64 → (x.testBit j = true ↔ y.testBit j = true ∨ z.testBit j = true)) : x = y ||| z :=
  word_ext hx (Nat.or_lt_two_pow hy hz) fun j hj => by rw [Nat.testBit_or, Bool.or_eq_true]; exact h j hj
/-- The union's law. -/
theorem C_union {s a b : ByteArray} (h : ∀ c, Occ s c ↔ Occ a c ∨ Occ b c) : C0 s = C0 a ||| C0 b ∧ C1 s = C1 a ||| C1 b :=
  ⟨or_eq (C0_lt s) (C0_lt a) (C0_lt b) fun j hj => by rw [C0_bit hj, C0_bit hj, C0_bit hj]; exact h j, or_eq (C1_lt s) (C1_lt a) (C1_lt b) fun j hj => by rw [C1_bit hj, C1_bit hj, C1_bit hj]; exact h (64 + j)⟩

/-- 'c is among the first k bytes', as a Bool. -/
def inb (s : ByteArray) (k c : Nat) : Bool := (List.range k).any (fun i => byt s i == c)
theorem inb_iff {s : ByteArray} {k c : Nat} : inb s k c = true ↔ InK s k c := by simp [inb, InK]
theorem inb_not {s : ByteArray} {k c : Nat} : inb s k c = false ↔ ¬ InK s k c := by rw [← inb_iff]; simp
theorem inb_same {s : ByteArray} {k k' c d : Nat} (h : InK s k c ↔ InK s k' d) : inb s k c = inb s k' d := by
  cases g : inb s k c <;> cases g' : inb s k' d
  · rfl
  · rw [inb_not] at g; rw [inb_iff] at g'; exact absurd (h.2 g') g
  · rw [inb_iff] at g; rw [inb_not] at g'; exact absurd (h.1 g) g'
  · rfl
/-- How many members below n. -/
def cnt (s : ByteArray) (k n : Nat) : Nat := (List.range n).countP (fun c => inb s k c)
theorem cnt_le (s : ByteArray) (k n : Nat) : cnt s k n ≤ n := by
  have : cnt s k n ≤ (List.range n).length := List.countP_le_length
  simpa using this
theorem countP_one {p q : Nat → Bool} {c : Nat} (hc : p c = true) (hq : q c = false) (h : ∀ d, d ≠ c → p d = q d) : ∀ n, (List.range n).countP p = (List.range n).countP q + (if c < n then 1 else 0)
  | 0 => by simp
  | n + 1 => by
    rw [List.range_succ, List.countP_append, List.countP_append, countP_one hc hq h n]
    by_cases e : n = c
    · subst e
      simp [hc, hq]
    · rw [List.countP_singleton, List.countP_singleton, h n e]
      by_cases hlt : c < n
      · rw [if_pos hlt, if_pos (show c < n + 1 by omega)]; omega
      · rw [if_neg hlt, if_neg (show ¬ c < n + 1 by omega)]; omega
theorem cnt_new {s : ByteArray} {k n : Nat} (h : inb s k (byt s k) = false) (hn : byt s k < n) : cnt s (k + 1) n = cnt s k n + 1 := by
  unfold cnt
  rw [countP_one (c := byt s k) (p := fun c => inb s (k + 1) c) (q := fun c => inb s k c) (inb_iff.2 (inK_succ.2 (.inl rfl))) h (fun d hd => inb_same (by rw [inK_succ]; exact ⟨fun h => h.elim (fun e => absurd e.symm hd) id, .inr⟩)) n, if_pos hn]
theorem cnt_old {s : ByteArray} {k n : Nat} (h : inb s k (byt s k) = true) : cnt s (k + 1) n = cnt s k n := by
  unfold cnt
  congr 1
  funext c
  exact inb_same (by rw [inK_succ]; exact ⟨fun h' => h'.elim (fun e => e ▸ inb_iff.1 h) id, .inr⟩)
theorem cnt_zero (s : ByteArray) (n : Nat) : cnt s 0 n = 0 := by
  unfold cnt
  rw [List.countP_eq_zero]
  intro c _
  simp [inb]
/-- Members: the two words' bits. -/
theorem pop_cnt (s : ByteArray) (k : Nat) : popc (c0 s k) 64 + popc (c1 s k) 64 = cnt s k 128 := by
  unfold popc cnt
  rw [show (128 : Nat) = 64 + 64 from rfl, List.range_add, List.countP_append, List.countP_map]
  congr 1
  · apply List.countP_congr
    intro j hj
    rw [List.mem_range] at hj
    rw [c0_bit s j hj, inb_iff]
  · apply List.countP_congr
    intro j hj
    rw [List.mem_range] at hj
    rw [c1_bit s j hj]
    exact inb_iff.symm
theorem cnt_ascii {s : ByteArray} {k : Nat} (h : ∀ i, i < k → byt s i < 128) : cnt s k 256 = cnt s k 128 := by
  unfold cnt
  rw [show (256 : Nat) = 128 + 128 from rfl, List.range_add, List.countP_append, List.countP_map]
  have : (List.range 128).countP ((fun c => inb s k c) ∘ fun x => 128 + x) = 0 := by
    rw [List.countP_eq_zero]
    intro j _
    simp only [Function.comp]
    rw [Bool.not_eq_true, inb_not]
    rintro ⟨i, hi, e⟩
    have := h i hi
    omega
  rw [this]
  rfl
end Go.Proofs.Qxb6628475a
