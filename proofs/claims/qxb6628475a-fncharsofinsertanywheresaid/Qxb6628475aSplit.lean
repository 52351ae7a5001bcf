import Derived.Test.Qxb6628475aW5
namespace Go.Proofs.Qxb6628475a
open Go.RowKit

theorem byt_data {s : ByteArray} {i : Nat} (h : i < s.size) : byt s i = (s.data[i]'h).toNat := by
  rw [byt, Array.getD, dif_pos (show i < s.data.size from h)]
  rfl
theorem size_ext {s : ByteArray} {i j : Nat} (hj : j ≤ s.size) : (s.extract i j).size = j - i := by
  rw [ByteArray.size_extract]; omega
theorem byt_ext {s : ByteArray} {a b i : Nat} (hb : b ≤ s.size) (h : a + i < b) : byt (s.extract a b) i = byt s (a + i) := by
  rw [byt_data (by rw [size_ext hb]; omega), byt_data (by omega)]
  congr 1
  simp only [ByteArray.data_extract, Array.getElem_extract]
theorem ascii_ext {s : ByteArray} {a b : Nat} (hb : b ≤ s.size) (h : Ascii s) : Ascii (s.extract a b) := fun i hi => by
  rw [size_ext hb] at hi
  rw [byt_ext hb (by omega)]
  exact h _ (by omega)
theorem occ_split {s : ByteArray} {k : Nat} (hk : k ≤ s.size) (c : Nat) : Occ s c ↔ Occ (s.extract 0 k) c ∨ Occ (s.extract k s.size) c := by
  constructor
  · rintro ⟨i, hi, e⟩
    by_cases h : i < k
    · exact .inl ⟨i, by rw [size_ext hk]; omega, by rw [byt_ext hk (by omega), Nat.zero_add]; exact e⟩
    · exact .inr ⟨i - k, by rw [size_ext (Nat.le_refl _)]; omega, by rw [byt_ext (Nat.le_refl _) (by omega), show k + (i - k) = i by omega]; exact e⟩
  · rintro (⟨i, hi, e⟩ | ⟨i, hi, e⟩)
    · rw [size_ext hk] at hi
      rw [byt_ext hk (by omega), Nat.zero_add] at e
      exact ⟨i, by omega, e⟩
    · rw [size_ext (Nat.le_refl _)] at hi
      rw [byt_ext (Nat.le_refl _) (by omega)] at e
      exact ⟨k + i, by omega, e⟩
/-- The left set is the whole's where each byte of the right is in the left, and only there. -/
theorem covered_iff {s a b : ByteArray} (hs : ∀ c, Occ s c ↔ Occ a c ∨ Occ b c) (hb : Ascii b) : (∀ j, j < b.size → inb a a.size (byt b j) = true) ↔ C0 a = C0 s ∧ C1 a = C1 s := by
  constructor
  · intro h
    refine C_eq fun c _ => ?_
    rw [hs]
    constructor
    · exact .inl
    · rintro (h' | ⟨j, hj, e⟩)
      · exact h'
      · have := inb_iff.1 (h j hj)
        rw [e] at this
        exact this
  · rintro ⟨h0, h1⟩ j hj
    exact inb_iff.2 ((C_back h0 h1 _ (hb j hj)).2 ((hs _).2 (.inr ⟨j, hj, rfl⟩)))
theorem cell_below {B : Nat} {w w' : World} (hb : Below B w w') {p : Addr} {v : Value} (h : w.cell? p = some v) (hp : p.block < B) : w'.cell? p = some v := (hb.cell hp).trans h

set_option maxHeartbeats 1000000 in
theorem split (s : ByteArray) (k : Int) (bs : s.size ≤ maxLen) (w : World) :
    Calls Try.prog 3 #[.string s, .int .i64 k] w (Ret1 w (.bool true)) := by
  go_enter Try.func3, Try.ntmps3
  go_wp2_with fail
  refine (bytes5 s k _ bs).mono ?_
  rintro e w' ⟨rfl, hw⟩
  subst hw
  by_cases hs : s.size ≤ 1048576
  case neg =>
    have hd : decide (s.size ≤ 1048576) = false := decide_eq_false hs
    go_wp2
    go_ret
    exact ⟨rfl, Below.refl _ _⟩
  have hd : decide (s.size ≤ 1048576) = true := decide_eq_true hs
  have hd2 : decide ((1048576 : Int) < (s.size : Int)) = false := decide_eq_false (by omega)
  by_cases k0 : k < 0
  · go_wp2
    go_ret
    exact ⟨rfl, Below.refl _ _⟩
  by_cases k1 : (s.size : Int) < k
  · go_wp2
    go_ret
    exact ⟨rfl, Below.refl _ _⟩
  obtain ⟨K, rfl⟩ := Int.eq_ofNat_of_zero_le (show 0 ≤ k by omega)
  have hK : K ≤ s.size := by omega
  have dk : decide ((K : Int) < 0) = false := decide_eq_false (by omega)
  clear k0 bs
  go_wp2_with fail
  refine (allAscii s _ hs).mono ?_
  rintro e w' ⟨b, rfl, hw, ha⟩
  subst hw
  cases b
  · go_wp2
    go_ret
    exact ⟨rfl, Below.refl _ _⟩
  have HS := hide (ha.1 (by trivial))
  clear hd hd2 ha
  obtain ⟨A, hA⟩ : ∃ A, s.extract 0 K = A := ⟨_, rfl⟩
  obtain ⟨B, hB⟩ : ∃ B, s.extract K s.size = B := ⟨_, rfl⟩
  have HA : Hid (Ascii A) := by rw [← hA]; exact ascii_ext hK HS.out
  have HB : Hid (Ascii B) := by rw [← hB]; exact ascii_ext (Nat.le_refl _) HS.out
  have OC : Hid (∀ c, Occ s c ↔ Occ A c ∨ Occ B c) := by rw [← hA, ← hB]; exact occ_split hK
  have za : A.size ≤ 1048576 := by rw [← hA, size_ext hK]; omega
  have zb : B.size ≤ 1048576 := by rw [← hB, size_ext (Nat.le_refl _)]; omega
  go_wp2_with fail
  refine (charsOf s _ (by omega) HS.out).mono ?_
  rintro e w2 ⟨rfl, b2⟩
  clear hA hB hK dk k1
  go_wp2_with fail
  refine (charsOf A _ (by omega) HA.out).mono ?_
  rintro e w3 ⟨rfl, b3⟩
  have l3 : w2.heap.size < w3.heap.size := by have := b3.size; simp at this; omega
  have s0 := cell_below b3 (World.cell?_alloc_at (w := w2) #[.int .u64 (C0 s : Int), .int .u64 (C1 s : Int)] 26 w2.heap.size 0 rfl) (by simp)
  have s1 := cell_below b3 (World.cell?_alloc_at (w := w2) #[.int .u64 (C0 s : Int), .int .u64 (C1 s : Int)] 26 w2.heap.size 1 rfl) (by simp)
  have B3 := hide ((b2.alloc b2.size _).trans (b3.mono (by have := b2.size; simp; omega)))
  clear b2 b3
  go_wp2_with fail
  refine (charsOf B _ (by omega) HB.out).mono ?_
  rintro e w4 ⟨rfl, b4⟩
  have l4 : w3.heap.size < w4.heap.size := by have := b4.size; simp at this; omega
  have a0 := cell_below b4 (World.cell?_alloc_at (w := w3) #[.int .u64 (C0 A : Int), .int .u64 (C1 A : Int)] 26 w3.heap.size 0 rfl) (by simp)
  have a1 := cell_below b4 (World.cell?_alloc_at (w := w3) #[.int .u64 (C0 A : Int), .int .u64 (C1 A : Int)] 26 w3.heap.size 1 rfl) (by simp)
  have s0 := cell_below b4 ((World.cell?_alloc_past _ _ _ l3).trans s0) (by simp; omega)
  have s1 := cell_below b4 ((World.cell?_alloc_past _ _ _ l3).trans s1) (by simp; omega)
  have B4 := hide ((B3.out.alloc B3.out.size _).trans (b4.mono (by have := B3.out.size; simp; omega)))
  clear b4 B3
  have u := C_union OC.out
  have u0 : bits .or .u64 (C0 A : Int) (C0 B : Int) = (C0 s : Int) := by rw [bits_or_nat (C0_lt A) (C0_lt B), ← u.1]
  have u1 : bits .or .u64 (C1 A : Int) (C1 B : Int) = (C1 s : Int) := by rw [bits_or_nat (C1_lt A) (C1_lt B), ← u.2]
  clear u
  have bb := (below1 w4 (.cells #[.int .u64 (C0 B : Int), .int .u64 (C1 B : Int)] 26)).alloc (by simp) (.cells #[.int .u64 (C0 s : Int), .int .u64 (C1 s : Int)] 26)
  have s0 := cell_below bb s0 (by simp; omega)
  have s1 := cell_below bb s1 (by simp; omega)
  have a0' := cell_below bb a0 (by simp; omega)
  have a1' := cell_below bb a1 (by simp; omega)
  have l24 : w2.heap.size < w4.heap.size := by omega
  have l24' : w2.heap.size < w4.heap.size + 1 := by omega
  have l34' : w3.heap.size < w4.heap.size + 1 := by omega
  have heq := fun w => eq26 (C0 s) (C1 s) (C0 s) (C1 s) w
  have hz := zero30
  have hcnt : cnt s s.size 256 = popc (C0 s) 64 + popc (C1 s) 64 := by rw [cnt_ascii HS.out]; exact (pop_cnt s s.size).symm
  go_wp2_with fail
  refine (size8 (C0 s) (C1 s) _).mono ?_
  rintro e w6 ⟨rfl, b6⟩
  have hds := distinct s w6 hs
  rw [hcnt] at hds
  go_wp2_with fail
  refine hds.mono ?_
  rintro e w7 ⟨rfl, b7⟩
  have bb7 := (b6.trans (b7.mono b6.size))
  have l7 : w4.heap.size < w7.heap.size := by have := bb7.size; simp at this; omega
  have s0 := cell_below bb7 s0 (by simp; omega)
  have s1 := cell_below bb7 s1 (by simp; omega)
  have a0 := cell_below bb7 a0' (by simp; omega)
  have a1 := cell_below bb7 a1' (by simp; omega)
  have B7 := hide ((B4.out.trans (bb.mono B4.out.size)).trans (bb7.mono (by have := B4.out.size; simp; omega)))
  clear bb b6 b7 bb7 a0' a1' B4 hds hcnt l24 l24' l34' u0 u1
  go_wp2
  clear hz heq
  go_loopw [12] (fun i wr => ∃ k : Nat, k ≤ A.size ∧ i = .int .i64 k ∧ Marks w7 wr w7.heap.size A k) (fun i _ => A.size - (intOf i).toNat)
  case atStart => exact ⟨0, Nat.zero_le _, rfl, marks_start (Below.refl _ _) A⟩
  case round =>
    obtain ⟨k, hk, rfl, hm⟩ := hrel
    have HM := hide hm
    clear hm
    by_cases hlt : k < A.size
    · have hidx := run_byt hlt
      have hb := byt_lt A k
      have hc := HM.out.c _ hb
      have hf := HM.out.f (byt A k)
      go_wp2
      go_roundw
      case rel => exact ⟨k + 1, by omega, by go_num, HM.out.set⟩
      case measure => simp [intOf]; omega
    · obtain rfl : k = A.size := by omega
      have hmc := hide HM.out.c
      have s0 := cell_below HM.out.bel s0 (by simp; omega)
      have s1 := cell_below HM.out.bel s1 (by simp; omega)
      have a0 := cell_below HM.out.bel a0 (by simp; omega)
      have a1 := cell_below HM.out.bel a1 (by simp; omega)
      have FIN := hide (B7.out.trans (HM.out.bel.mono B7.out.size))
      clear hlt hk HM B7
      go_wp2
      go_loop [13, 14] (fun c i => ∃ (k : Nat) (b : Bool), k ≤ B.size ∧ i = .int .i64 k ∧ c = .bool b ∧ (b = true ↔ ∀ j, j < k → inb A A.size (byt B j) = true)) (fun _ i => B.size - (intOf i).toNat)
      case atStart => exact ⟨0, true, Nat.zero_le _, rfl, rfl, ⟨fun _ j hj => by omega, fun _ => rfl⟩⟩
      case round =>
        obtain ⟨k, b, hk, rfl, rfl, hcv⟩ := hrel
        have HC := hide hcv
        clear hcv
        by_cases hlt : k < B.size
        · have hidx := run_byt hlt
          have hb := byt_lt B k
          have hc := hmc.out _ hb
          cases g : inb A A.size (byt B k)
          · rw [g] at hc
            go_wp2
            go_round
            case rel => exact ⟨k + 1, false, by omega, by go_num, rfl, ⟨fun h => (by cases h), fun h => (by have := h k (by omega); rw [g] at this; cases this)⟩⟩
            case measure => simp [intOf]; omega
          · rw [g] at hc
            go_wp2
            go_round
            case rel => exact ⟨k + 1, b, by omega, by go_num, rfl, HC.out.trans ⟨fun h j hj => by
              by_cases e : j = k
              · rw [e]; exact g
              · exact h j (by omega), fun h j hj => h j (by omega)⟩⟩
            case measure => simp [intOf]; omega
        · obtain rfl : k = B.size := by omega
          have CV := HC.out.trans (covered_iff OC.out HB.out)
          clear hlt hk HC hmc OC HA HB HS
          have heq := fun w => eq26 (C0 A) (C1 A) (C0 s) (C1 s) w
          have hv : ((C0 A : Int) == (C0 s : Int) && (C1 A : Int) == (C1 s : Int)) = b := by
            cases b
            · by_cases h0 : C0 A = C0 s
              · by_cases h1 : C1 A = C1 s
                · exact absurd (CV.2 ⟨h0, h1⟩) (by simp)
                · have : ((C1 A : Int) == (C1 s : Int)) = false := by simp; omega
                  rw [this, Bool.and_false]
              · have : ((C0 A : Int) == (C0 s : Int)) = false := by simp; omega
                rw [this, Bool.false_and]
            · have := CV.1 rfl
              rw [this.1, this.2]
              simp
          simp only [hv] at heq
          clear CV hv
          go_wp2
          cases b
          · go_ret
            exact ⟨rfl, FIN.out⟩
          · go_ret
            exact ⟨rfl, FIN.out⟩
end Go.Proofs.Qxb6628475a
