import Derived.Test.Qxb6628425aFmtMem
import Derived.ProofKit
import Derived.Deep.Slices
namespace Go.Proofs.Qxb6628425aFmt
open Go.RowKit Go.ChangeShapes Go.WideShapes

theorem cells9 : Tryf.prog.cellsOf 9 = 1 := by kernel_rfl

section
variable {H : Type} {enc : TypeId × Value → H} {W : World}

/-- A slice's address with a cell at its head is plain. -/
theorem plain_of {a : Addr} {v : Value} (h : W.cell? a = some v) : (some a : Option Addr) = some ⟨blk (some a), ofs (some a), none⟩ := by
  have h1 := World.cell?_spot h
  obtain ⟨b, o, s⟩ := a
  subst h1
  rfl
theorem add_at {a : Addr} {k j : Nat} (ha : (some a : Option Addr) = some ⟨blk (some a), ofs (some a), none⟩) : (a.add k).add j = ⟨blk (some a), ofs (some a) + k + j, none⟩ := by
  obtain ⟨b, o, s⟩ := a
  obtain rfl : s = none := by injection ha with ha; injection ha
  unfold Addr.add
  by_cases hk : k = 0 <;> by_cases hj : j = 0 <;> simp [hk, hj, blk, ofs]

theorem strs_of {n : Nat} {v : Value} {x : DataW H × List MemPlace} (h : DataW.trod enc Tryf.prog W 0 (fun _ => true) true n 22 [v] = some x) :
    ∃ a cap l, v = .slice a l.length cap ∧ StrsIn W a l ∧ l.length ≤ maxLen := by
  rcases Deep.open_slice1 Tryf.underlying22 cells9 h with ⟨h0, _⟩ | ⟨a, len, cap, m, k, U, D, Q, hcs, _, hl, hm, hmm, _, hx⟩
  · simp at h0
    subst h0
    exact ⟨none, 0, [], rfl, ⟨fun h => by simp at h, fun i h => by simp at h⟩, by unfold maxLen; simp⟩
  · simp at hcs
    subst hcs
    simp only [if_true] at hmm
    subst hmm
    obtain ⟨f, hf⟩ := @Deep.choose_lt ByteArray ⟨ByteArray.empty⟩ m (fun i b => W.cell? (a.add i) = some (.string b)) (fun i hi => by
      obtain ⟨h1, h2⟩ := hx i hi
      obtain ⟨b, hb, _⟩ := DataW.trod_string Tryf.underlying9 h2
      simp at hb
      exact ⟨b, by rw [h1, hb]⟩)
    have pl : 0 < len → (some a : Option Addr) = some ⟨blk (some a), ofs (some a), none⟩ := fun h => by
      have := hf 0 (by omega)
      simp [Addr.add] at this
      exact plain_of this
    refine ⟨some a, m, (List.range len).map f, by simp, ⟨fun h => pl (by simpa using h), fun i hi => ?_⟩, by simp; omega⟩
    simp at hi
    have := hf i (by omega)
    have e := add_at (k := 0) (j := i) (pl (by omega))
    simp only [Nat.add_zero] at e
    rw [show a.add 0 = a from by simp [Addr.add]] at e
    rw [e] at this
    rw [this]
    simp [nth, hi]
end
end Go.Proofs.Qxb6628425aFmt
