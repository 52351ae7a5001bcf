import Derived.Test.Qxb6628366aMem
import Derived.ProofKit
import Derived.Deep.Slices
namespace Go.Proofs.Qxb6628366a
open Go.RowKit Go.ChangeShapes Go.WideShapes

theorem cells49 : Try.prog.cellsOf 49 = 3 := by kernel_rfl
theorem cells25 : Try.prog.cellsOf 25 = 4 := by kernel_rfl
theorem cells22 : Try.prog.cellsOf 22 = 1 := by kernel_rfl
theorem cells4 : Try.prog.cellsOf 4 = 1 := by kernel_rfl
theorem cells3 : Try.prog.cellsOf 3 = 1 := by kernel_rfl
theorem cells23 : Try.prog.cellsOf 23 = 1 := by kernel_rfl
theorem cells2 : Try.prog.cellsOf 2 = 1 := by kernel_rfl
theorem cells9 : Try.prog.cellsOf 9 = 1 := by kernel_rfl

theorem list3 {l : List Value} (h : l.length = 3) : ∃ a b c, l = [a, b, c] := by
  match l, h with
  | [a, b, c], _ => exact ⟨a, b, c, rfl⟩
theorem list4 {l : List Value} (h : l.length = 4) : ∃ a b c d, l = [a, b, c, d] := by
  match l, h with
  | [a, b, c, d], _ => exact ⟨a, b, c, d, rfl⟩

section
variable {H : Type} {enc : TypeId × Value → H} {W : World}

theorem lv_of {n : Nat} {cs : List Value} {x : DataW H × List MemPlace} (h : DataW.trod enc Try.prog W 0 (fun _ => true) true n 49 cs = some x) : ∃ v : LV, cs = [.bool v.valid, .int .i64 v.n, .string v.s] := by
  obtain ⟨xs, m, _, _, hl, hxs, hf⟩ := DataW.trod_struct Try.underlying49 h
  rw [cells49] at hl
  obtain ⟨c0, c1, c2, rfl⟩ := list3 hl
  have get : ∀ i, i < 3 → ∃ y, xs[i]? = some y := fun i hi => ⟨xs[i]'(by rw [hxs]; exact hi), List.getElem?_eq_getElem _⟩
  obtain ⟨y0, e0⟩ := get 0 (by omega)
  obtain ⟨y1, e1⟩ := get 1 (by omega)
  obtain ⟨y2, e2⟩ := get 2 (by omega)
  have h0 : DataW.trod enc Try.prog W 0 (fun _ => true) true m 4 [c0] = some y0 := by have := hf 0 _ rfl; rw [e0] at this; simpa [cells4] using this
  have h1 : DataW.trod enc Try.prog W 0 (fun _ => true) true m 2 [c1] = some y1 := by have := hf 1 _ rfl; rw [e1] at this; simpa [cells2] using this
  have h2 : DataW.trod enc Try.prog W 0 (fun _ => true) true m 9 [c2] = some y2 := by have := hf 2 _ rfl; rw [e2] at this; simpa [cells9] using this
  obtain ⟨b, hb, _⟩ := DataW.trod_bool Try.underlying4 h0
  obtain ⟨k, hk, _⟩ := DataW.trod_int Try.underlying2 h1
  obtain ⟨s, hs, _⟩ := DataW.trod_string Try.underlying9 h2
  simp at hb hk hs
  exact ⟨⟨b, k, s⟩, by rw [hb, hk, hs]⟩

/-- A slice's address with a cell at its head is plain. -/
theorem plain_of {a : Addr} {v : Value} (h : W.cell? a = some v) : (some a : Option Addr) = some ⟨blk (some a), ofs (some a), none⟩ := by
  have h1 := World.cell?_spot h
  obtain ⟨b, o, s⟩ := a
  subst h1
  rfl
theorem add_at {a : Addr} {k j : Nat} (ha : (some a : Option Addr) = some ⟨blk (some a), ofs (some a), none⟩) : (a.add k).add j = ⟨blk (some a), ofs (some a) + k + j, none⟩ := by
  obtain ⟨b, o, s⟩ := a
  obtain rfl : s = none := by injection ha with ha; injection ha
  unfold Addr.add
  by_cases hk : k = 0 <;> by_cases hj : j = 0 <;> simp [hk, hj, blk, ofs]

theorem row_of {n : Nat} {v : Value} {x : DataW H × List MemPlace} (h : DataW.trod enc Try.prog W 0 (fun _ => true) true n 22 [v] = some x) :
    ∃ a len cap f, v = .slice a len cap ∧ RowIn W a len f ∧ (a = none → len = 0 ∧ cap = 0) ∧ len ≤ maxLen := by
  rcases Deep.open_slice Try.underlying22 h with ⟨h0, _⟩ | ⟨a, len, cap, m, k, D, Q, hcs, _, hl, hm, hmm, _, hx⟩
  · simp at h0
    subst h0
    exact ⟨none, 0, 0, fun _ => ⟨false, 0, ByteArray.empty⟩, rfl, ⟨fun h => by omega, fun i h => by omega, fun i h => by omega, fun i h => by omega⟩, fun _ => ⟨rfl, rfl⟩, by unfold maxLen; omega⟩
  · simp at hcs
    subst hcs
    simp only [if_true] at hmm
    subst hmm
    rw [cells49] at hx
    obtain ⟨f, hf⟩ := @Deep.choose_lt LV ⟨⟨false, 0, ByteArray.empty⟩⟩ m (fun i v => W.cells? 0 (a.add (i * 3)) 3 = some [.bool v.valid, .int .i64 v.n, .string v.s]) (fun i hi => by
      obtain ⟨cs, h1, h2⟩ := hx i hi
      obtain ⟨v, rfl⟩ := lv_of h2
      exact ⟨v, h1⟩)
    have pl : 0 < len → (some a : Option Addr) = some ⟨blk (some a), ofs (some a), none⟩ := fun h => by
      have := (World.cells?_some (hf 0 (by omega))).2.2 0 (by omega)
      simp [Addr.add] at this
      exact plain_of this
    have c : ∀ i, i < len → ∀ j, j < 3 → W.cell? ⟨blk (some a), ofs (some a) + i * 3 + j, none⟩ = [Value.bool (f i).valid, .int .i64 (f i).n, .string (f i).s][j]? := fun i hi j hj => by
      have := (World.cells?_some (hf i (by omega))).2.2 j hj
      rwa [add_at (pl (by omega))] at this
    exact ⟨some a, len, m, f, rfl, ⟨pl, fun i hi => c i hi 0 (by omega), fun i hi => c i hi 1 (by omega), fun i hi => c i hi 2 (by omega)⟩, fun h => (by cases h), by omega⟩

theorem lver_of {n : Nat} {cs : List Value} {x : DataW H × List MemPlace} (h : DataW.trod enc Try.prog W 0 (fun _ => true) true n 25 cs = some x) :
    ∃ v : LVer, cs = [.slice v.ra v.rn v.rc, .bool v.ghost, .int .i64 v.writer, .int .u64 v.com] ∧ RowIn W v.ra v.rn v.row ∧ (v.ra = none → v.rn = 0 ∧ v.rc = 0) ∧ v.rn ≤ maxLen := by
  obtain ⟨xs, m, _, _, hl, hxs, hf⟩ := DataW.trod_struct Try.underlying25 h
  rw [cells25] at hl
  obtain ⟨c0, c1, c2, c3, rfl⟩ := list4 hl
  have get : ∀ i, i < 4 → ∃ y, xs[i]? = some y := fun i hi => ⟨xs[i]'(by rw [hxs]; exact hi), List.getElem?_eq_getElem _⟩
  obtain ⟨y0, e0⟩ := get 0 (by omega)
  obtain ⟨y1, e1⟩ := get 1 (by omega)
  obtain ⟨y2, e2⟩ := get 2 (by omega)
  obtain ⟨y3, e3⟩ := get 3 (by omega)
  have h0 : DataW.trod enc Try.prog W 0 (fun _ => true) true m 22 [c0] = some y0 := by have := hf 0 _ rfl; rw [e0] at this; simpa [cells22] using this
  have h1 : DataW.trod enc Try.prog W 0 (fun _ => true) true m 4 [c1] = some y1 := by have := hf 1 _ rfl; rw [e1] at this; simpa [cells4] using this
  have h2 : DataW.trod enc Try.prog W 0 (fun _ => true) true m 3 [c2] = some y2 := by have := hf 2 _ rfl; rw [e2] at this; simpa [cells3] using this
  have h3 : DataW.trod enc Try.prog W 0 (fun _ => true) true m 23 [c3] = some y3 := by have := hf 3 _ rfl; rw [e3] at this; simpa [cells23] using this
  obtain ⟨a, len, cap, f, hs, hr, hz, hb⟩ := row_of h0
  obtain ⟨g, hg, _⟩ := DataW.trod_bool Try.underlying4 h1
  obtain ⟨k, hk, _⟩ := DataW.trod_int Try.underlying3 h2
  obtain ⟨u, hu, _⟩ := DataW.trod_int Try.underlying23 h3
  simp at hg hk hu
  exact ⟨⟨a, len, cap, f, g, k, u⟩, by rw [hs, hg, hk, hu], hr, hz, hb⟩

theorem vers_of {n : Nat} {v : Value} {x : DataW H × List MemPlace} (h : DataW.trod enc Try.prog W 0 (fun _ => true) true n 26 [v] = some x) :
    ∃ a len cap V, v = .slice a len cap ∧ VersIn W a len V ∧ (a = none → len = 0) ∧ (∀ i, i < len → (V i).ra = none → (V i).rn = 0 ∧ (V i).rc = 0) ∧ len ≤ maxLen ∧ ∀ i, i < len → (V i).rn ≤ maxLen := by
  rcases Deep.open_slice Try.underlying26 h with ⟨h0, _⟩ | ⟨a, len, cap, m, k, D, Q, hcs, _, hl, hm, hmm, _, hx⟩
  · simp at h0
    subst h0
    exact ⟨none, 0, 0, fun _ => ⟨none, 0, 0, fun _ => ⟨false, 0, ByteArray.empty⟩, false, 0, 0⟩, rfl, ⟨fun h => by omega, fun i h => by omega, fun i h => by omega, fun i h => by omega, fun i h => by omega, fun i h => by omega⟩, fun _ => rfl, fun i h => by omega, by unfold maxLen; omega, fun i h => by omega⟩
  · simp at hcs
    subst hcs
    simp only [if_true] at hmm
    subst hmm
    rw [cells25] at hx
    obtain ⟨f, hf⟩ := @Deep.choose_lt LVer ⟨⟨none, 0, 0, fun _ => ⟨false, 0, ByteArray.empty⟩, false, 0, 0⟩⟩ m (fun i v => W.cells? 0 (a.add (i * 4)) 4 = some [.slice v.ra v.rn v.rc, .bool v.ghost, .int .i64 v.writer, .int .u64 v.com] ∧ RowIn W v.ra v.rn v.row ∧ (v.ra = none → v.rn = 0 ∧ v.rc = 0) ∧ v.rn ≤ maxLen) (fun i hi => by
      obtain ⟨cs, h1, h2⟩ := hx i hi
      obtain ⟨v, rfl, r⟩ := lver_of h2
      exact ⟨v, h1, r⟩)
    have pl : 0 < len → (some a : Option Addr) = some ⟨blk (some a), ofs (some a), none⟩ := fun h => by
      have := (World.cells?_some (hf 0 (by omega)).1).2.2 0 (by omega)
      simp [Addr.add] at this
      exact plain_of this
    have c : ∀ i, i < len → ∀ j, j < 4 → W.cell? ⟨blk (some a), ofs (some a) + i * 4 + j, none⟩ = [Value.slice (f i).ra (f i).rn (f i).rc, .bool (f i).ghost, .int .i64 (f i).writer, .int .u64 (f i).com][j]? := fun i hi j hj => by
      have := (World.cells?_some (hf i (by omega)).1).2.2 j hj
      rwa [add_at (pl (by omega))] at this
    exact ⟨some a, len, m, f, rfl, ⟨pl, fun i hi => c i hi 0 (by omega), fun i hi => c i hi 1 (by omega), fun i hi => c i hi 2 (by omega), fun i hi => c i hi 3 (by omega), fun i hi => (hf i (by omega)).2.1⟩, fun h => (by cases h), fun i hi => (hf i (by omega)).2.2.1, by omega, fun i hi => (hf i (by omega)).2.2.2⟩

theorem bools_of {n : Nat} {v : Value} {x : DataW H × List MemPlace} (h : DataW.trod enc Try.prog W 0 (fun _ => true) true n 27 [v] = some x) :
    ∃ a len cap S, v = .slice a len cap ∧ BoolsIn W a len S ∧ len ≤ maxLen := by
  rcases Deep.open_slice1 Try.underlying27 cells4 h with ⟨h0, _⟩ | ⟨a, len, cap, m, k, U, D, Q, hcs, _, hl, hm, hmm, _, hx⟩
  · simp at h0
    subst h0
    exact ⟨none, 0, 0, fun _ => false, rfl, ⟨fun h => by omega, fun i h => by omega⟩, by unfold maxLen; omega⟩
  · simp at hcs
    subst hcs
    simp only [if_true] at hmm
    subst hmm
    obtain ⟨f, hf⟩ := @Deep.choose_lt Bool ⟨false⟩ m (fun i b => W.cell? (a.add i) = some (.bool b)) (fun i hi => by
      obtain ⟨h1, h2⟩ := hx i hi
      obtain ⟨b, hb, _⟩ := DataW.trod_bool Try.underlying4 h2
      simp at hb
      exact ⟨b, by rw [h1, hb]⟩)
    have pl : 0 < len → (some a : Option Addr) = some ⟨blk (some a), ofs (some a), none⟩ := fun h => by
      have := hf 0 (by omega)
      simp [Addr.add] at this
      exact plain_of this
    exact ⟨some a, len, m, f, rfl, ⟨pl, fun i hi => by
      have := hf i (by omega)
      have e := add_at (k := 0) (j := i) (pl (by omega))
      simp only [Nat.add_zero] at e
      rw [show a.add 0 = a from by simp [Addr.add]] at e
      rwa [e] at this
      ⟩, by omega⟩
end
end Go.Proofs.Qxb6628366a
