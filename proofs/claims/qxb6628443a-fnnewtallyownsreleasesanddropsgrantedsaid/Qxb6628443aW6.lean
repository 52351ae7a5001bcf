import Derived.Test.Qxb6628443aMem
namespace Go.Proofs.Qxb6628443a
open Go.RowKit

/-- The cells of n records in a row. -/
def flat (F : Nat → Nat → Value) (sz n : Nat) : List Value := (List.range (n * sz)).map (fun p => F (p / sz) (p % sz))
theorem flat_len (F : Nat → Nat → Value) (sz n : Nat) : (flat F sz n).length = n * sz := by simp [flat]
theorem flat_at {F : Nat → Nat → Value} {sz n i j : Nat} (hi : i < n) (hj : j < sz) : (flat F sz n)[i * sz + j]? = some (F i j) := by
  have h : i * sz + j < n * sz := by
    have : (i + 1) * sz ≤ n * sz := Nat.mul_le_mul_right _ hi
    rw [Nat.add_mul] at this
    omega
  have e1 : (i * sz + j) / sz = i := by rw [Nat.mul_comm, Nat.mul_add_div (by omega), Nat.div_eq_of_lt hj, Nat.add_zero]
  have e2 : (i * sz + j) % sz = j := by rw [Nat.mul_comm, Nat.mul_add_mod, Nat.mod_eq_of_lt hj]
  simp [flat, h, e1, e2]
theorem flat_get {F : Nat → Nat → Value} {sz n p : Nat} {u : Value} (hs : 0 < sz) (h : (flat F sz n)[p]? = some u) : ∃ i j, i < n ∧ j < sz ∧ p = i * sz + j ∧ u = F i j := by
  have hp : p < n * sz := by
    rw [List.getElem?_eq_some_iff] at h
    obtain ⟨h, _⟩ := h
    rwa [flat_len] at h
  refine ⟨p / sz, p % sz, Nat.div_lt_of_lt_mul (by rwa [Nat.mul_comm]), Nat.mod_lt _ hs, by rw [Nat.mul_comm]; exact (Nat.div_add_mod p sz).symm, ?_⟩
  simp [flat, hp] at h
  exact h.symm

theorem add_plain {a : Addr} (ha : (some a : Option Addr) = some ⟨blk (some a), ofs (some a), none⟩) (k : Nat) : a.add k = ⟨blk (some a), ofs (some a) + k, none⟩ := by
  obtain ⟨b, o, s⟩ := a
  obtain rfl : s = none := by injection ha with ha; injection ha
  unfold Addr.add
  by_cases hk : k = 0 <;> simp [hk, blk, ofs]
/-- A row that the call owns, as records at a slice's address. -/
theorem recs_of_owns {w : World} {base g n cap sz : Nat} {e : TypeId} {F : Nat → Nat → Value} (h : w.ownsRow base e sz (.slice (some ⟨g, 0, none⟩) n cap) n (flat F sz n)) : Recs w (some ⟨g, 0, none⟩) sz n F := by
  refine ⟨fun _ => rfl, fun i hi j hj => ?_⟩
  have e1 : blk (some ⟨g, 0, none⟩) = g := rfl
  have e2 : ofs (some ⟨g, 0, none⟩) = 0 := rfl
  rw [e1, e2, Nat.zero_add, h.cellAt (i * sz + j) ?_, flat_at hi hj]
  have : (i + 1) * sz ≤ n * sz := Nat.mul_le_mul_right _ hi
  rw [Nat.add_mul] at this
  omega

/-- What 'slices.Clone' hands back. -/
def CloneRet (w : World) (ra : Option Addr) (n : Nat) (F : Nat → Nat → Value) (e : Ending) (w' : World) : Prop :=
  ∃ ga gc, e = .returned (.slice ga n gc) ∧ Below w.heap.size w w' ∧ Recs w' ga 3 n F ∧ ga.isNone = ra.isNone ∧ (0 < n → w.heap.size ≤ blk ga)

theorem info69 : (Try.prog.info? 69).map (fun i => (i.zero, i.size, i.bytes)) = some (some (.agg #[.int .u64 0, .string ⟨#[]⟩, .int .i64 0]), 3, 32) := by kernel_rfl

theorem clone_nil (F : Nat → Nat → Value) (w : World) : Calls Try.prog 22 #[.slice none 0 0] w (CloneRet w none 0 F) := by
  have hn := fun w => Lib.run_eql_slice_nil (P := Try.prog) w 30 69 none 0 0 0 0 Try.underlying30
  go_enter Try.func22, Try.ntmps22
  go_wp2
  go_ret
  exact ⟨none, 0, rfl, Below.refl _ _, ⟨fun h => by omega, fun i h => by omega⟩, rfl, fun h => by omega⟩

set_option maxHeartbeats 1000000 in
theorem clone_some (a : Addr) (n c : Nat) (F : Nat → Nat → Value) (w : World) (hr : Recs w (some a) 3 n F) (hn : n ≤ 1048576) (h1 : ∀ i j, (F i j).oneCell' = true) : Calls Try.prog 22 #[.slice (some a) n c] w (CloneRet w (some a) n F) := by
  obtain ⟨i0, hi, hz0, hz1, hz2⟩ := info_parts info69
  have hnil := fun w => Lib.run_eql_slice_nil (P := Try.prog) w 30 69 (some a) n c 0 0 Try.underlying30
  have hnn : (some a : Option Addr).isNone = false := rfl
  rw [hnn] at hnil
  have HR := hide hr
  have H1 := hide h1
  clear hr h1 hnn
  have hown : (w.alloc (.cells #[] 69)).ownsRow w.heap.size 69 3 (.slice (some ⟨w.heap.size, 0, none⟩) 0 0) 0 [] :=
    ⟨rfl, .inr ⟨w.heap.size, 0, #[], rfl, Nat.le_refl _, by show (w.heap.push _)[w.heap.size]? = _; simp, Nat.le_refl _, by unfold maxLen; omega, rfl, rfl⟩⟩
  have HO := hide hown
  clear hown
  go_enter Try.func22, Try.ntmps22
  go_wp2_with (at_builtin; refine wpList_append_own _ rfl (.tmp 5) (.tmp 6) 30 rfl w.heap.size 69 i0 (.agg #[.int .u64 0, .string ⟨#[]⟩, .int .i64 0]) 3 32 Try.underlying30 hi hz0 hz1 hz2 rfl (by omega) _ 0 [] rfl HO.out a n c (flat F 3 n) rfl (flat_len F 3 n) ?_ ?_ (by unfold maxLen; omega) (by omega) (by simp) ?_)
  · intro p u hp
    obtain ⟨i, j, hi', hj, rfl, rfl⟩ := flat_get (by omega) hp
    have hp := HR.out.pl (by omega)
    have hc := HR.out.c i hi' j hj
    have this := add_plain hp (i * 3 + j)
    rw [← Nat.add_assoc] at this
    rw [this]
    exact cell_below (below1 w _) hc (lt_of_cell hc)
  · intro u hu
    simp only [flat, List.mem_map] at hu
    obtain ⟨p, _, rfl⟩ := hu
    exact H1.out _ _
  intro v' w' hown' hgrow hv
  have hown' : w'.ownsRow w.heap.size 69 3 v' n (flat F 3 n) := by simpa using hown'
  rcases hown'.2 with ⟨hv0, _⟩ | ⟨g, cap, cur, hvv, hb, _⟩
  · exact absurd hv0 (by simpa using hv)
  subst hvv
  have HW := hide hown'
  have HB : Hid (Below w.heap.size w w') := (below1 w _).grown hgrow (by simp) (fun k e => by cases e; exact Nat.le_refl _)
  clear hown' hgrow hv
  go_wp2
  go_ret
  exact ⟨some ⟨g, 0, none⟩, cap, by first | rfl | simp, HB.out, recs_of_owns HW.out, rfl, fun _ => hb⟩
end Go.Proofs.Qxb6628443a
