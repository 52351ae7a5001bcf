import Derived.Test.Qxb6628475aSplit
import Derived.Deep.RegionHeld3
import Derived.Deep.CutRange
namespace Go.Proofs.Qxb6628475a
open Go.RowKit

theorem byt_append_left {a b : ByteArray} {i : Nat} (h : i < a.size) : byt (a ++ b) i = byt a i := by
  rw [byt_data (by rw [ByteArray.size_append]; omega), byt_data h]
  congr 1
  simp only [ByteArray.data_append]
  exact Array.getElem_append_left h
theorem byt_append_right {a b : ByteArray} {i : Nat} (h : i < b.size) : byt (a ++ b) (a.size + i) = byt b i := by
  rw [byt_data (by rw [ByteArray.size_append]; omega), byt_data h]
  congr 1
  simp only [ByteArray.data_append]
  rw [Array.getElem_append_right (by show a.data.size ≤ a.size + i; exact Nat.le_add_right _ _)]
  congr 1
  show a.size + i - a.size = i
  omega
theorem occ_append {a b : ByteArray} {c : Nat} : Occ (a ++ b) c ↔ Occ a c ∨ Occ b c := by
  constructor
  · rintro ⟨i, hi, e⟩
    rw [ByteArray.size_append] at hi
    by_cases h : i < a.size
    · rw [byt_append_left h] at e
      exact .inl ⟨i, h, e⟩
    · rw [show i = a.size + (i - a.size) by omega, byt_append_right (by omega)] at e
      exact .inr ⟨_, by omega, e⟩
  · rintro (⟨i, hi, e⟩ | ⟨i, hi, e⟩)
    · exact ⟨i, by rw [ByteArray.size_append]; omega, by rw [byt_append_left hi]; exact e⟩
    · exact ⟨a.size + i, by rw [ByteArray.size_append]; omega, by rw [byt_append_right hi]; exact e⟩
theorem ascii_iff {s : ByteArray} : Ascii s ↔ ∀ c, Occ s c → c < 128 := by
  constructor
  · rintro h c ⟨i, hi, rfl⟩
    exact h i hi
  · exact fun h i hi => h _ ⟨i, hi, rfl⟩
/-- A string of one byte. -/
def one (c : Nat) : ByteArray := ⟨#[UInt8.ofNat c]⟩
theorem one_size (c : Nat) : (one c).size = 1 := rfl
theorem one_occ {c d : Nat} (h : c < 256) : Occ (one c) d ↔ d = c := by
  have hb : byt (one c) 0 = c := by
    show (UInt8.ofNat c).toNat = c
    simp; omega
  constructor
  · rintro ⟨i, hi, e⟩
    rw [one_size] at hi
    rw [show i = 0 by omega, hb] at e
    exact e.symm
  · rintro rfl
    exact ⟨0, by rw [one_size]; omega, hb⟩
/-- How many members, with one byte more. -/
theorem cnt_more {s t : ByteArray} {c : Nat} (ht : ∀ d, Occ t d ↔ Occ s d ∨ d = c) (hc : c < 128) (ho : ¬ Occ s c) : cnt t t.size 128 = cnt s s.size 128 + 1 := by
  unfold cnt
  rw [countP_one (c := c) (p := fun d => inb t t.size d) (q := fun d => inb s s.size d) (inb_iff.2 ((ht c).2 (.inr rfl))) (inb_not.2 ho) (fun d hd => by
    have : Occ t d ↔ Occ s d := by rw [ht]; exact ⟨fun h => h.resolve_right hd, .inl⟩
    cases g : inb t t.size d <;> cases g' : inb s s.size d
    · rfl
    · rw [inb_not] at g; rw [inb_iff] at g'; exact absurd (this.2 g') g
    · rw [inb_iff] at g; rw [inb_not] at g'; exact absurd (this.1 g) g'
    · rfl) 128, if_pos hc]

theorem size8' (x y : Nat) (w W : World) (hb : Below w.heap.size w W) : Calls Try.prog 8 #[.agg #[.int .u64 (x : Int), .int .u64 (y : Int)]] W fun e w' => e = .returned (.int .i64 ((popc x 64 + popc y 64 : Nat) : Int)) ∧ Below w.heap.size w w' := by
  refine (size8 x y W).mono ?_
  rintro e w' ⟨rfl, b⟩
  exact ⟨rfl, hb.trans (b.mono hb.size)⟩

theorem conv_one {c : Nat} (h : c < 256) (b : Nat) (w : World) (hc : w.cell? ⟨b, 0, none⟩ = some (.int .u8 (c : Int))) : (convert 32 9 (.slice (some ⟨b, 0, none⟩) 1 1)).run Try.prog w = .ok (.string (one c)) w := by
  refine run_convert_bytes_back w 32 9 5 ⟨b, 0, none⟩ 1 [UInt8.ofNat c] Try.underlying32 Try.underlying5 Try.underlying9 fun j hj => ?_
  match j, hj with
  | 0, _ =>
    have : (UInt8.ofNat c).toNat = c := by simp; omega
    simpa [Addr.add, this] using hc

set_option maxHeartbeats 1000000 in
theorem insert (s : ByteArray) (k : Int) (c : Nat) (bs : s.size ≤ maxLen) (hc : c < 256) (w : World) :
    Calls Try.prog 4 #[.string s, .int .i64 k, .int .u8 (c : Int)] w (Ret1 w (.bool true)) := by
  go_enter Try.func4, Try.ntmps4
  go_wp2_with fail
  refine (bytes10 s k c _ bs).mono ?_
  rintro e w' ⟨rfl, hw⟩
  subst hw
  by_cases hs : s.size ≤ 1048576
  case neg =>
    have hd : decide (s.size ≤ 1048576) = false := decide_eq_false hs
    go_wp2
    go_ret
    exact ⟨rfl, Below.refl _ _⟩
  have hd : decide (s.size ≤ 1048576) = true := decide_eq_true hs
  have hd2 : decide ((1048576 : Int) < (s.size : Int)) = false := decide_eq_false (by omega)
  by_cases k0 : k < 0
  · go_wp2
    go_ret
    exact ⟨rfl, Below.refl _ _⟩
  by_cases k1 : (s.size : Int) < k
  · go_wp2
    go_ret
    exact ⟨rfl, Below.refl _ _⟩
  obtain ⟨K, rfl⟩ := Int.eq_ofNat_of_zero_le (show 0 ≤ k by omega)
  have hK : K ≤ s.size := by omega
  have dk : decide ((K : Int) < 0) = false := decide_eq_false (by omega)
  clear k0 bs
  by_cases c1 : c < 128
  case neg =>
    have g' : decide ((128 : Int) ≤ (c : Int)) = true := decide_eq_true (by omega)
    clear c1
    go_wp2
    go_ret
    exact ⟨rfl, Below.refl _ _⟩
  have g' : decide ((128 : Int) ≤ (c : Int)) = false := decide_eq_false (by omega)
  have hc1 := hide c1
  clear c1
  go_wp2_with fail
  refine (allAscii s _ hs).mono ?_
  rintro e w' ⟨b, rfl, hw, ha⟩
  subst hw
  cases b
  · go_wp2
    go_ret
    exact ⟨rfl, Below.refl _ _⟩
  have HS := hide (ha.1 (by trivial))
  clear hd hd2 ha g'
  have hconv := conv_one hc
  obtain ⟨A, hA⟩ : ∃ A, s.extract 0 K = A := ⟨_, rfl⟩
  obtain ⟨B, hB⟩ : ∃ B, s.extract K s.size = B := ⟨_, rfl⟩
  have za : A.size ≤ 1048576 := by rw [← hA, size_ext hK]; omega
  have zb : B.size ≤ 1048576 := by rw [← hB, size_ext (Nat.le_refl _)]; omega
  have zo := one_size c
  obtain ⟨I, hI⟩ : ∃ I, A ++ one c ++ B = I := ⟨_, rfl⟩
  obtain ⟨E, hE⟩ : ∃ E, s ++ one c = E := ⟨_, rfl⟩
  have zi : I.size ≤ 1048577 := by
    rw [← hI, ByteArray.size_append, ByteArray.size_append, one_size, ← hA, ← hB, size_ext hK, size_ext (Nat.le_refl _)]; omega
  have ze : E.size ≤ 1048577 := by rw [← hE, ByteArray.size_append, one_size]; omega
  have OE : Hid (∀ d, Occ E d ↔ Occ s d ∨ d = c) := fun d => by rw [← hE, occ_append, one_occ hc]
  have OI : Hid (∀ d, Occ I d ↔ Occ s d ∨ d = c) := fun d => by
    rw [← hI, occ_append, occ_append, one_occ hc, occ_split hK d, hA, hB]
    constructor
    · rintro ((h | h) | h)
      · exact .inl (.inl h)
      · exact .inr h
      · exact .inl (.inr h)
    · rintro ((h | h) | h)
      · exact .inl (.inl h)
      · exact .inr h
      · exact .inl (.inr h)
  have HE : Hid (Ascii E) := ascii_iff.2 fun d h => by
    rcases (OE.out d).1 h with h | h
    · exact ascii_iff.1 HS.out d h
    · rw [h]; exact hc1.out
  have HI : Hid (Ascii I) := ascii_iff.2 fun d h => by
    rcases (OI.out d).1 h with h | h
    · exact ascii_iff.1 HS.out d h
    · rw [h]; exact hc1.out
  have IE : Hid (C0 I = C0 E ∧ C1 I = C1 E) := C_eq fun d _ => by rw [OI.out, OE.out]
  have zso : (s.size : Int) + 1 ≤ 9223372036854775807 := by omega
  go_wp2_with fail
  go_quiet (fail)
  go_wp2_with fail
  refine (charsOf s _ (by omega) HS.out).mono ?_
  rintro e w2 ⟨rfl, b2⟩
  have B2 := hide ((drewN_below (below1 w' (.cells #[.int .u8 (c : Int)] 5)) _).trans (b2.mono (by show w'.heap.size ≤ (w'.alloc _).heap.size; simp)))
  clear b2 hA hB hK dk k1 hI hE hconv zso
  have hci : ∀ w, Calls Try.prog 7 #[.string I] w (fun e w' => e = .returned (.agg #[.int .u64 (C0 E : Int), .int .u64 (C1 E : Int)]) ∧ Below w.heap.size w w') := fun w => by
    refine (charsOf I w zi HI.out).mono ?_
    rintro e w' ⟨rfl, h⟩
    rw [IE.out.1, IE.out.2]
    exact ⟨rfl, h⟩
  go_wp2_with fail
  refine (hci _).mono ?_
  rintro e w3 ⟨rfl, b3⟩
  have l3 : w2.heap.size < w3.heap.size := by have := b3.size; simp at this; omega
  have s0 := cell_below b3 (World.cell?_alloc_at (w := w2) #[.int .u64 (C0 s : Int), .int .u64 (C1 s : Int)] 26 w2.heap.size 0 rfl) (by simp)
  have s1 := cell_below b3 (World.cell?_alloc_at (w := w2) #[.int .u64 (C0 s : Int), .int .u64 (C1 s : Int)] 26 w2.heap.size 1 rfl) (by simp)
  have B3 := hide ((B2.out.alloc B2.out.size _).trans (b3.mono (by have := B2.out.size; simp; omega)))
  clear b3 B2 hci
  go_wp2_with fail
  refine (charsOf E _ (by omega) HE.out).mono ?_
  rintro e w4 ⟨rfl, b4⟩
  have l4 : w3.heap.size < w4.heap.size := by have := b4.size; simp at this; omega
  have a0 := cell_below b4 (World.cell?_alloc_at (w := w3) #[.int .u64 (C0 E : Int), .int .u64 (C1 E : Int)] 26 w3.heap.size 0 rfl) (by simp)
  have a1 := cell_below b4 (World.cell?_alloc_at (w := w3) #[.int .u64 (C0 E : Int), .int .u64 (C1 E : Int)] 26 w3.heap.size 1 rfl) (by simp)
  have s0 := cell_below b4 ((World.cell?_alloc_past _ _ _ l3).trans s0) (by simp; omega)
  have s1 := cell_below b4 ((World.cell?_alloc_past _ _ _ l3).trans s1) (by simp; omega)
  have B4 := hide ((B3.out.alloc B3.out.size _).trans (b4.mono (by have := B3.out.size; simp; omega)))
  clear b4 B3
  have l24 : w2.heap.size < w4.heap.size := by omega
  have heq := fun w => eq26 (C0 E) (C1 E) (C0 E) (C1 E) w
  go_wp2_with fail
  refine (occurs s c _ hs).mono ?_
  rintro e w5 ⟨b, rfl, hw, hocc⟩
  subst hw
  have OCC := hide hocc
  clear hocc heq l3 l4 zi ze za zb zo HS HE HI IE OI
  have e0 := World.cell?_alloc_at (w := w4) #[.int .u64 (C0 E : Int), .int .u64 (C1 E : Int)] 26 w4.heap.size 0 rfl
  have e1 := World.cell?_alloc_at (w := w4) #[.int .u64 (C0 E : Int), .int .u64 (C1 E : Int)] 26 w4.heap.size 1 rfl
  have s0 := (World.cell?_alloc_past (.cells #[.int .u64 (C0 E : Int), .int .u64 (C1 E : Int)] 26) _ _ l24).trans s0
  have s1 := (World.cell?_alloc_past (.cells #[.int .u64 (C0 E : Int), .int .u64 (C1 E : Int)] 26) _ _ l24).trans s1
  have BW := hide (B4.out.alloc B4.out.size (.cells #[.int .u64 (C0 E : Int), .int .u64 (C1 E : Int)] 26))
  have lw : w4.heap.size < (w4.alloc (.cells #[.int .u64 (C0 E : Int), .int .u64 (C1 E : Int)] 26)).heap.size := by simp
  have lw2 : w2.heap.size < (w4.alloc (.cells #[.int .u64 (C0 E : Int), .int .u64 (C1 E : Int)] 26)).heap.size := by simp; omega
  obtain ⟨N, hN⟩ : ∃ N, popc (C0 s) 64 + popc (C1 s) 64 = N := ⟨_, rfl⟩
  have lN : N ≤ 128 := by have := popc_le (C0 s) 64; have := popc_le (C1 s) 64; omega
  have wN : IntKind.i64.wrap (N : Int) = N := by rw [IntKind.wrap_i64]; omega
  have wN1 : IntKind.i64.wrap ((N : Int) + 1) = (N : Int) + 1 := by rw [IntKind.wrap_i64]; omega
  have hS : ∀ W, Below (w4.alloc (.cells #[.int .u64 (C0 E : Int), .int .u64 (C1 E : Int)] 26)).heap.size (w4.alloc (.cells #[.int .u64 (C0 E : Int), .int .u64 (C1 E : Int)] 26)) W → Calls Try.prog 8 #[.agg #[.int .u64 (C0 s : Int), .int .u64 (C1 s : Int)]] W fun e w' => e = .returned (.int .i64 (N : Int)) ∧ Below (w4.alloc (.cells #[.int .u64 (C0 E : Int), .int .u64 (C1 E : Int)] 26)).heap.size (w4.alloc (.cells #[.int .u64 (C0 E : Int), .int .u64 (C1 E : Int)] 26)) w' := fun W h => by
    have := size8' (C0 s) (C1 s) _ W h
    rw [hN] at this
    exact this
  have HS := hide hS
  clear hS
  cases b
  · have ho : ¬ Occ s c := fun h => by have := OCC.out.2 h; cases this
    have hE : popc (C0 E) 64 + popc (C1 E) 64 = N + 1 := by
      rw [← hN]
      exact (pop_cnt E E.size).trans ((cnt_more OE.out hc1.out ho).trans (by rw [← pop_cnt s s.size]; rfl))
    have hv : ((C0 E : Int) == (C0 s : Int) && (C1 E : Int) == (C1 s : Int)) = false := by
      have q := fun h0 h1 => ho ((C_back (s := E) (t := s) h0 h1 c hc1.out).1 ((OE.out c).2 (.inr rfl)))
      by_cases h0 : C0 E = C0 s
      · have : ((C1 E : Int) == (C1 s : Int)) = false := by simp; exact fun h1 => q h0 (by omega)
        rw [this, Bool.and_false]
      · have : ((C0 E : Int) == (C0 s : Int)) = false := by simp; omega
        rw [this, Bool.false_and]
    have hSE : ∀ W, Below (w4.alloc (.cells #[.int .u64 (C0 E : Int), .int .u64 (C1 E : Int)] 26)).heap.size (w4.alloc (.cells #[.int .u64 (C0 E : Int), .int .u64 (C1 E : Int)] 26)) W → Calls Try.prog 8 #[.agg #[.int .u64 (C0 E : Int), .int .u64 (C1 E : Int)]] W fun e w' => e = .returned (.int .i64 ((N : Int) + 1)) ∧ Below (w4.alloc (.cells #[.int .u64 (C0 E : Int), .int .u64 (C1 E : Int)] 26)).heap.size (w4.alloc (.cells #[.int .u64 (C0 E : Int), .int .u64 (C1 E : Int)] 26)) w' := fun W h => by
      have := size8' (C0 E) (C1 E) _ W h
      rw [hE] at this
      simpa using this
    have HSE := hide hSE
    have heq := fun w => eq26 (C0 E) (C1 E) (C0 s) (C1 s) w
    simp only [hv] at heq
    clear hSE hv ho OCC OE hE hN hc1 hc hs 
    go_wp2_with fail
    go_region_held3 (fun w' => w'.cell? ⟨w4.heap.size, 0, none⟩ = some (.int .u64 (C0 E : Int)) ∧ w'.cell? ⟨w4.heap.size, 1, none⟩ = some (.int .u64 (C1 E : Int)) ∧ w'.cell? ⟨w2.heap.size, 0, none⟩ = some (.int .u64 (C0 s : Int)) ∧ w'.cell? ⟨w2.heap.size, 1, none⟩ = some (.int .u64 (C1 s : Int))) (go_keep)
      (first
        | (go_at_call_of 8 (Value.agg #[.int .u64 (C0 E : Int), .int .u64 (C1 E : Int)]); refine (HSE.out _ ?_).mono ?_; (first | exact Below.refl _ _ | exact (Below.refl _ _).drew); rintro e w6 ⟨rfl, B6⟩; have f0 := cell_below B6 e0 lw; have f1 := cell_below B6 e1 lw; have t0 := cell_below B6 s0 lw2; have t1 := cell_below B6 s1 lw2)
        | (go_at_call_of 8 (Value.agg #[.int .u64 (C0 s : Int), .int .u64 (C1 s : Int)]); refine (HS.out _ ?_).mono ?_; (first | exact B6 | exact B6.drew); rintro e w8 ⟨rfl, B8⟩; have g0 := cell_below B8 e0 lw; have g1 := cell_below B8 e1 lw; have r0 := cell_below B8 s0 lw2; have r1 := cell_below B8 s1 lw2))
    go_wp2
    go_ret
    exact ⟨rfl, BW.out.trans (B8.mono BW.out.size)⟩
  · have ho : Occ s c := OCC.out.1 rfl
    have q := C_eq (s := E) (t := s) fun d _ => by rw [OE.out]; exact ⟨fun h => h.elim id (fun e => e ▸ ho), .inl⟩
    have hE : popc (C0 E) 64 + popc (C1 E) 64 = N := by rw [q.1, q.2, hN]
    have hv : ((C0 E : Int) == (C0 s : Int) && (C1 E : Int) == (C1 s : Int)) = true := by rw [q.1, q.2]; simp
    have hSE : ∀ W, Below (w4.alloc (.cells #[.int .u64 (C0 E : Int), .int .u64 (C1 E : Int)] 26)).heap.size (w4.alloc (.cells #[.int .u64 (C0 E : Int), .int .u64 (C1 E : Int)] 26)) W → Calls Try.prog 8 #[.agg #[.int .u64 (C0 E : Int), .int .u64 (C1 E : Int)]] W fun e w' => e = .returned (.int .i64 (N : Int)) ∧ Below (w4.alloc (.cells #[.int .u64 (C0 E : Int), .int .u64 (C1 E : Int)] 26)).heap.size (w4.alloc (.cells #[.int .u64 (C0 E : Int), .int .u64 (C1 E : Int)] 26)) w' := fun W h => by
      have := size8' (C0 E) (C1 E) _ W h
      rw [hE] at this
      exact this
    have HSE := hide hSE
    have heq := fun w => eq26 (C0 E) (C1 E) (C0 s) (C1 s) w
    simp only [hv] at heq
    clear hSE hv ho OCC OE hE hN hc1 hc hs q
    go_wp2_with fail
    go_region_held3 (fun w' => w'.cell? ⟨w4.heap.size, 0, none⟩ = some (.int .u64 (C0 E : Int)) ∧ w'.cell? ⟨w4.heap.size, 1, none⟩ = some (.int .u64 (C1 E : Int)) ∧ w'.cell? ⟨w2.heap.size, 0, none⟩ = some (.int .u64 (C0 s : Int)) ∧ w'.cell? ⟨w2.heap.size, 1, none⟩ = some (.int .u64 (C1 s : Int))) (go_keep)
      (first
        | (go_at_call_of 8 (Value.agg #[.int .u64 (C0 E : Int), .int .u64 (C1 E : Int)]); refine (HSE.out _ ?_).mono ?_; (first | exact Below.refl _ _ | exact (Below.refl _ _).drew); rintro e w6 ⟨rfl, B6⟩; have f0 := cell_below B6 e0 lw; have f1 := cell_below B6 e1 lw; have t0 := cell_below B6 s0 lw2; have t1 := cell_below B6 s1 lw2)
        | (go_at_call_of 8 (Value.agg #[.int .u64 (C0 s : Int), .int .u64 (C1 s : Int)]); refine (HS.out _ ?_).mono ?_; (first | exact B6 | exact B6.drew); rintro e w8 ⟨rfl, B8⟩; have g0 := cell_below B8 e0 lw; have g1 := cell_below B8 e1 lw; have r0 := cell_below B8 s0 lw2; have r1 := cell_below B8 s1 lw2))
    go_wp2
    go_ret
    exact ⟨rfl, BW.out.trans (B8.mono BW.out.size)⟩
end Go.Proofs.Qxb6628475a
