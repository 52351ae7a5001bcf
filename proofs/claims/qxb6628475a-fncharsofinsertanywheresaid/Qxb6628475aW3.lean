import Derived.Test.Qxb6628475aPlain
namespace Go.Proofs.Qxb6628475a
open Go.RowKit

theorem or_bit {x : Nat} (hx : x < 2 ^ 64) (c : Nat) : bits .or .u64 (x : Int) (IntKind.u64.wrap (2 ^ (c % 64))) = ((x ||| 2 ^ (c % 64) : Nat) : Int) := by
  have e : ((2 : Int) ^ (c % 64)) = ((2 ^ (c % 64) : Nat) : Int) := by simp
  rw [e, wrap_u64 (bit_lt c), bits_or_nat hx (bit_lt c)]

/-- The world in the middle: the result's block still zero, the set's block holds the first k bytes, the bytes lie in theirs. -/
structure Mid (w wr : World) (s : ByteArray) (k : Nat) : Prop where
  bel : Below w.heap.size w wr
  r0 : wr.cell? ⟨w.heap.size, 0, none⟩ = some (.int .u64 0)
  r1 : wr.cell? ⟨w.heap.size, 1, none⟩ = some (.int .u64 0)
  s0 : wr.cell? ⟨w.heap.size + 1, 0, none⟩ = some (.int .u64 (c0 s k : Int))
  s1 : wr.cell? ⟨w.heap.size + 1, 1, none⟩ = some (.int .u64 (c1 s k : Int))
  fr : ∀ j, wr.frozen? ⟨w.heap.size, j, none⟩ = false
  fs : ∀ j, wr.frozen? ⟨w.heap.size + 1, j, none⟩ = false
  by' : ∀ i, i < s.size → wr.cell? ⟨w.heap.size + 2, i, none⟩ = some (.int .u8 (byt s i : Int))

theorem cell_set_same {w : World} {a : Addr} {u : Value} (v : Value) (h : w.cell? a = some u) : (w.setCell a v).cell? a = some v := World.cell?_setCell_same w a v h
theorem cell_set_ne {w : World} {a b : Addr} (v : Value) (h : a ≠ b) : (w.setCell a v).cell? b = w.cell? b := World.cell?_setCell_other w a b v h
theorem of_ne {q r b c : Nat} (h : b ≠ c) : (⟨q, b, none⟩ : Addr) ≠ ⟨r, c, none⟩ := fun e => by injection e; omega
theorem bk_ne {q r b c : Nat} (h : q ≠ r) : (⟨q, b, none⟩ : Addr) ≠ ⟨r, c, none⟩ := fun e => by injection e; omega
theorem below1 (w : World) (o : Obj) : Below w.heap.size w (w.alloc o) := (Below.refl _ _).alloc (Nat.le_refl _) _
theorem below_set {B : Nat} {a w : World} (h : Below B a w) (q o : Nat) (hq : B ≤ q) (u : Value) : Below B a (w.setCell ⟨q, o, none⟩ u) := h.setCell (p := ⟨q, o, none⟩) hq u

theorem mid_start (w : World) (s : ByteArray) (G : Nat) (fr : Nat × Nat) : Mid w ((((w.alloc (.cells #[.int .u64 0, .int .u64 0] 26)).alloc (.cells #[.int .u64 0, .int .u64 0] 26)).alloc (.cells (bytesRow s G) 5 fr)).drew) s 0 := by
  refine ⟨(((below1 w _).alloc (by simp) _).alloc (by simp; omega) _).drew, ?_, ?_, ?_, ?_, ?_, ?_, ?_⟩
  · rw [World.cell?_drew, World.cell?_alloc_past _ _ _ (by simp; omega), World.cell?_alloc_past _ _ _ (by simp), World.cell?_alloc_at _ _ _ _ rfl]; rfl
  · rw [World.cell?_drew, World.cell?_alloc_past _ _ _ (by simp; omega), World.cell?_alloc_past _ _ _ (by simp), World.cell?_alloc_at _ _ _ _ rfl]; rfl
  · rw [World.cell?_drew, World.cell?_alloc_past _ _ _ (by simp), World.cell?_alloc_at _ _ _ _ (by simp)]; rfl
  · rw [World.cell?_drew, World.cell?_alloc_past _ _ _ (by simp), World.cell?_alloc_at _ _ _ _ (by simp)]; rfl
  · intro j
    rw [World.frozen?_drew, World.frozen?_alloc_past _ _ _ (by simp; omega), World.frozen?_alloc_past _ _ _ (by simp), World.frozen?_alloc_at _ _ _ _ rfl]
  · intro j
    rw [World.frozen?_drew, World.frozen?_alloc_past _ _ _ (by simp), World.frozen?_alloc_at _ _ _ _ (by simp)]
  · intro i hi
    have h1 := bytesRow_at s G i hi
    have h2 := World.cell?_alloc_mark ((w.alloc (.cells #[.int .u64 0, .int .u64 0] 26)).alloc (.cells #[.int .u64 0, .int .u64 0] 26)) (bytesRow s G) 5 fr i
    rw [h1] at h2
    have e : (s.data[i]'hi).toNat = byt s i := by
      rw [byt, Array.getD, dif_pos (show i < s.data.size from hi)]
      rfl
    rw [e] at h2
    simpa using h2
theorem Mid.set0 {w wr : World} {s : ByteArray} {k : Nat} (m : Mid w wr s k) (h : byt s k / 64 = 0) : Mid w (wr.setCell ⟨w.heap.size + 1, 0, none⟩ (.int .u64 ((c0 s k ||| 2 ^ (byt s k % 64) : Nat) : Int))) s (k + 1) := by
  refine ⟨below_set m.bel _ _ (by omega) _, (cell_set_ne _ (bk_ne (by omega))).trans m.r0, (cell_set_ne _ (bk_ne (by omega))).trans m.r1, ?_, ?_, fun j => by rw [World.frozen?_setCell]; exact m.fr j, fun j => by rw [World.frozen?_setCell]; exact m.fs j, fun i hi => (cell_set_ne _ (bk_ne (by omega))).trans (m.by' i hi)⟩
  · rw [cell_set_same _ m.s0, c0, put0, if_pos h]
  · rw [cell_set_ne _ (of_ne (by omega)), m.s1, c1, put1, if_neg (by omega)]
theorem Mid.set1 {w wr : World} {s : ByteArray} {k : Nat} (m : Mid w wr s k) (h : byt s k / 64 = 1) : Mid w (wr.setCell ⟨w.heap.size + 1, 1, none⟩ (.int .u64 ((c1 s k ||| 2 ^ (byt s k % 64) : Nat) : Int))) s (k + 1) := by
  refine ⟨below_set m.bel _ _ (by omega) _, (cell_set_ne _ (bk_ne (by omega))).trans m.r0, (cell_set_ne _ (bk_ne (by omega))).trans m.r1, ?_, ?_, fun j => by rw [World.frozen?_setCell]; exact m.fr j, fun j => by rw [World.frozen?_setCell]; exact m.fs j, fun i hi => (cell_set_ne _ (bk_ne (by omega))).trans (m.by' i hi)⟩
  · rw [cell_set_ne _ (of_ne (by omega)), m.s0, c0, put0, if_neg (by omega)]
  · rw [cell_set_same _ m.s1, c1, put1, if_pos h]

def CharsRet (w : World) (s : ByteArray) (e : Ending) (w' : World) : Prop := e = .returned (.agg #[.int .u64 (C0 s : Int), .int .u64 (C1 s : Int)]) ∧ Below w.heap.size w w'

set_option maxHeartbeats 400000 in
theorem charsOf (s : ByteArray) (w : World) (hs : s.size ≤ 1048577) (ha : Ascii s) : Calls Try.prog 7 #[.string s] w (CharsRet w s) := by
  have hconv := fun w => run_bytes_of_string (P := Try.prog) w 9 32 5 s Try.underlying9 Try.underlying32 Try.underlying5
  go_enter Try.func7, Try.ntmps7
  go_wp2
  generalize grownCap _ s.size 0 5 = G
  go_loopw [9] (fun i wr => ∃ k : Nat, k ≤ s.size ∧ i = .int .i64 k ∧ Mid w wr s k) (fun i _ => s.size - (intOf i).toNat)
  case atStart => exact ⟨0, Nat.zero_le _, rfl, mid_start w s G _⟩
  case round =>
    clear hconv
    obtain ⟨k, hk, rfl, hm⟩ := hrel
    have HM := hide hm
    clear hm
    by_cases hlt : k < s.size
    · have hb := HM.out.by' k hlt
      have ha' := ha k hlt
      have g' : decide ((128 : Int) ≤ (byt s k : Int)) = false := decide_eq_false (by omega)
      by_cases e : byt s k / 64 = 0
      · have hc := HM.out.s0
        have hf := HM.out.fs 0
        have E := hide e
        have ei : (byt s k : Int) / 64 = 0 := by omega
        clear ha'
        go_wp2
        go_roundw
        case rel => exact ⟨k + 1, by omega, by go_num, by rw [or_bit (c0_lt s k)]; exact HM.out.set0 E.out⟩
        case measure => simp [intOf]; omega
      · have e1 : byt s k / 64 = 1 := by omega
        have hc := HM.out.s1
        have hf := HM.out.fs 1
        have E := hide e1
        have ei : (byt s k : Int) / 64 = 1 := by omega
        clear ha' e
        go_wp2
        go_roundw
        case rel => exact ⟨k + 1, by omega, by go_num, by rw [or_bit (c1_lt s k)]; exact HM.out.set1 E.out⟩
        case measure => simp [intOf]; omega
    · obtain rfl : k = s.size := by omega
      have x0 := HM.out.s0
      have x1 := HM.out.s1
      have r0 := HM.out.r0
      have r1 := HM.out.r1
      have f0 := HM.out.fr 0
      have f1 := HM.out.fr 1
      go_wp2
      refine bodyPost_ret (v := .agg #[.int .u64 (C0 s : Int), .int .u64 (C1 s : Int)]) ?_ rfl ⟨rfl, ?_⟩
      · simp [C0, C1, results, Try.results7, go_sem, r0, r1]
      · exact below_set (below_set HM.out.bel _ _ (Nat.le_refl _) _) _ _ (Nat.le_refl _) _
end Go.Proofs.Qxb6628475a
