import Derived.Test.Qxb6628475aW3
import Derived.BigQuiet
import Derived.Deep.QuietTactic
import Derived.Deep.RegionWith
namespace Go.Proofs.Qxb6628475a
open Go.RowKit

theorem drewN_below {B : Nat} {a w : World} (h : Below B a w) (n : Nat) : Below B a (w.drewN n) := ⟨h.os, h.tape, h.output, h.size, h.block⟩
def Ret1 (w : World) (v : Value) (e : Ending) (w' : World) : Prop := e = .returned v ∧ Below w.heap.size w w'

set_option maxHeartbeats 400000 in
theorem size8 (x y : Nat) (w : World) : Calls Try.prog 8 #[.agg #[.int .u64 (x : Int), .int .u64 (y : Int)]] w (Ret1 w (.int .i64 ((popc x 64 + popc y 64 : Nat) : Int))) := by
  have h1 := popc_le x 64
  have h2 := popc_le y 64
  go_enter Try.func8, Try.ntmps8
  go_wp2
  go_quiet (first
    | (go_at_call_of 12 (Value.int .u64 (x : Int)); exact Calls.quiet_of_same (pop x _))
    | (go_at_call_of 12 (Value.int .u64 (y : Int)); exact Calls.quiet_of_same (pop y _)))
  go_wp2
  go_ret
  exact ⟨by go_num, drewN_below (below1 w _) _⟩

def Z : Array Value := Array.replicate 256 (.bool false)
theorem zero30 (w : World) : (zeroValue 30).run Try.prog w = .ok (.agg Z) w := by kernel_rfl
theorem Z_at {c : Nat} (h : c < 256) : Z[c]? = some (.bool false) := by simp [Z, h]

/-- The array of marks, in a block: which bytes are among the first k. -/
structure Marks (w wr : World) (b : Nat) (s : ByteArray) (k : Nat) : Prop where
  bel : Below w.heap.size w wr
  up : w.heap.size ≤ b
  c : ∀ c, c < 256 → wr.cell? ⟨b, c, none⟩ = some (.bool (inb s k c))
  f : ∀ c, wr.frozen? ⟨b, c, none⟩ = false
theorem marks_start {w w0 : World} (h : Below w.heap.size w w0) (s : ByteArray) : Marks w (w0.alloc (.cells Z 30)) w0.heap.size s 0 :=
  ⟨h.alloc h.size _, h.size, fun c hc => by rw [World.cell?_alloc_at _ _ _ _ rfl, Z_at hc]; rfl, fun c => World.frozen?_alloc_at _ _ _ _ rfl⟩
theorem Marks.set {w wr : World} {b : Nat} {s : ByteArray} {k : Nat} (m : Marks w wr b s k) : Marks w (wr.setCell ⟨b, byt s k, none⟩ (.bool true)) b s (k + 1) := by
  refine ⟨below_set m.bel _ _ m.up _, m.up, fun c hc => ?_, fun c => by rw [World.frozen?_setCell]; exact m.f c⟩
  by_cases e : byt s k = c
  · subst e
    rw [cell_set_same _ (m.c _ hc), inb_iff.2 (inK_succ.2 (.inl rfl))]
  · rw [cell_set_ne _ (of_ne e), m.c c hc]
    rw [inb_same (k' := k + 1) (d := c) (by rw [inK_succ]; exact ⟨.inr, fun h => h.elim (fun h => absurd h e) id⟩)]
theorem Marks.same {w wr : World} {b : Nat} {s : ByteArray} {k : Nat} (m : Marks w wr b s k) (h : inb s k (byt s k) = true) : Marks w wr b s (k + 1) := by
  refine ⟨m.bel, m.up, fun c hc => ?_, m.f⟩
  rw [m.c c hc, inb_same (k' := k + 1) (d := c) (by rw [inK_succ]; exact ⟨.inr, fun h' => h'.elim (fun e => e ▸ inb_iff.1 h) id⟩)]

set_option maxHeartbeats 400000 in
theorem distinct (s : ByteArray) (w : World) (hs : s.size ≤ 1048576) : Calls Try.prog 9 #[.string s] w (Ret1 w (.int .i64 (cnt s s.size 256 : Int))) := by
  have hz := zero30
  go_enter Try.func9, Try.ntmps9
  go_wp2
  clear hz
  go_loopw [4, 5] (fun n i wr => ∃ k : Nat, k ≤ s.size ∧ i = .int .i64 k ∧ n = .int .i64 (cnt s k 256 : Int) ∧ Marks w wr w.heap.size s k) (fun _ i _ => s.size - (intOf i).toNat)
  case atStart => exact ⟨0, Nat.zero_le _, rfl, by rw [cnt_zero]; rfl, marks_start (Below.refl _ _) s⟩
  case round =>
    obtain ⟨k, hk, rfl, rfl, hm⟩ := hrel
    have HM := hide hm
    clear hm
    have hcl := cnt_le s k 256
    by_cases hlt : k < s.size
    · have hidx := run_byt hlt
      have hb := byt_lt s k
      have hc := HM.out.c _ hb
      have hf := HM.out.f (byt s k)
      cases g : inb s k (byt s k)
      · rw [g] at hc
        go_wp2
        go_roundw
        case rel => exact ⟨k + 1, by omega, by go_num, by rw [cnt_new g hb]; go_num, HM.out.set⟩
        case measure => simp [intOf]; omega
      · rw [g] at hc
        go_wp2
        go_roundw
        case rel => exact ⟨k + 1, by omega, by go_num, by rw [cnt_old g], HM.out.same g⟩
        case measure => simp [intOf]; omega
    · obtain rfl : k = s.size := by omega
      go_wp2
      go_ret
      exact ⟨rfl, HM.out.bel⟩
end Go.Proofs.Qxb6628475a
