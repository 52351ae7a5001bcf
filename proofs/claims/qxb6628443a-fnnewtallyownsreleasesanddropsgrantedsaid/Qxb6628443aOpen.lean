import Derived.Test.Qxb6628443aMem
import Derived.ProofKit
import Derived.Deep.Slices
namespace Go.Proofs.Qxb6628443a
open Go.RowKit Go.ChangeShapes Go.WideShapes

theorem cells50 : Try.prog.cellsOf 50 = 6 := by kernel_rfl
theorem cells71 : Try.prog.cellsOf 71 = 3 := by kernel_rfl
theorem cells58 : Try.prog.cellsOf 58 = 3 := by kernel_rfl
theorem cells66 : Try.prog.cellsOf 66 = 7 := by kernel_rfl
theorem cells9 : Try.prog.cellsOf 9 = 1 := by kernel_rfl
theorem cells23 : Try.prog.cellsOf 23 = 1 := by kernel_rfl
theorem cells2 : Try.prog.cellsOf 2 = 1 := by kernel_rfl
theorem list3 {l : List Value} (h : l.length = 3) : ∃ a0 a1 a2, l = [a0, a1, a2] := by
  match l, h with
  | [a0, a1, a2], _ => exact ⟨a0, a1, a2, rfl⟩
theorem list6 {l : List Value} (h : l.length = 6) : ∃ a0 a1 a2 a3 a4 a5, l = [a0, a1, a2, a3, a4, a5] := by
  match l, h with
  | [a0, a1, a2, a3, a4, a5], _ => exact ⟨a0, a1, a2, a3, a4, a5, rfl⟩
theorem list7 {l : List Value} (h : l.length = 7) : ∃ a0 a1 a2 a3 a4 a5 a6, l = [a0, a1, a2, a3, a4, a5, a6] := by
  match l, h with
  | [a0, a1, a2, a3, a4, a5, a6], _ => exact ⟨a0, a1, a2, a3, a4, a5, a6, rfl⟩

section
variable {H : Type} {enc : TypeId × Value → H} {W : World}

/-- A slice's address with a cell at its head is plain. -/
theorem plain_of {a : Addr} {v : Value} (h : W.cell? a = some v) : (some a : Option Addr) = some ⟨blk (some a), ofs (some a), none⟩ := by
  have h1 := World.cell?_spot h
  obtain ⟨b, o, s⟩ := a
  subst h1
  rfl
theorem add_at {a : Addr} {k j : Nat} (ha : (some a : Option Addr) = some ⟨blk (some a), ofs (some a), none⟩) : (a.add k).add j = ⟨blk (some a), ofs (some a) + k + j, none⟩ := by
  obtain ⟨b, o, s⟩ := a
  obtain rfl : s = none := by injection ha with ha; injection ha
  unfold Addr.add
  by_cases hk : k = 0 <;> by_cases hj : j = 0 <;> simp [hk, hj, blk, ofs]

theorem lease_of {n : Nat} {cs : List Value} {x : DataW H × List MemPlace} (h : DataW.trod enc Try.prog W 0 (fun _ => true) true n 50 cs = some x) : ∃ v : LI, cs = [.string v.name, .string v.holder, .int .u64 v.token, .int .i64 v.ttl, .int .i64 v.rem, .string v.key] := by
  obtain ⟨xs, m, _, _, hl, hxs, hf⟩ := DataW.trod_struct Try.underlying50 h
  rw [cells50] at hl
  obtain ⟨c0, c1, c2, c3, c4, c5, rfl⟩ := list6 hl
  have get : ∀ i, i < 6 → ∃ y, xs[i]? = some y := fun i hi => ⟨xs[i]'(by rw [hxs]; exact hi), List.getElem?_eq_getElem _⟩
  obtain ⟨y0, e0⟩ := get 0 (by omega)
  have h0 : DataW.trod enc Try.prog W 0 (fun _ => true) true m 9 [c0] = some y0 := by have := hf 0 _ rfl; rw [e0] at this; simpa [cells9] using this
  obtain ⟨z0, hz0, _⟩ := DataW.trod_string Try.underlying9 h0
  obtain ⟨y1, e1⟩ := get 1 (by omega)
  have h1 : DataW.trod enc Try.prog W 0 (fun _ => true) true m 9 [c1] = some y1 := by have := hf 1 _ rfl; rw [e1] at this; simpa [cells9] using this
  obtain ⟨z1, hz1, _⟩ := DataW.trod_string Try.underlying9 h1
  obtain ⟨y2, e2⟩ := get 2 (by omega)
  have h2 : DataW.trod enc Try.prog W 0 (fun _ => true) true m 23 [c2] = some y2 := by have := hf 2 _ rfl; rw [e2] at this; simpa [cells23] using this
  obtain ⟨z2, hz2, _⟩ := DataW.trod_int Try.underlying23 h2
  obtain ⟨y3, e3⟩ := get 3 (by omega)
  have h3 : DataW.trod enc Try.prog W 0 (fun _ => true) true m 2 [c3] = some y3 := by have := hf 3 _ rfl; rw [e3] at this; simpa [cells2] using this
  obtain ⟨z3, hz3, _⟩ := DataW.trod_int Try.underlying2 h3
  obtain ⟨y4, e4⟩ := get 4 (by omega)
  have h4 : DataW.trod enc Try.prog W 0 (fun _ => true) true m 2 [c4] = some y4 := by have := hf 4 _ rfl; rw [e4] at this; simpa [cells2] using this
  obtain ⟨z4, hz4, _⟩ := DataW.trod_int Try.underlying2 h4
  obtain ⟨y5, e5⟩ := get 5 (by omega)
  have h5 : DataW.trod enc Try.prog W 0 (fun _ => true) true m 9 [c5] = some y5 := by have := hf 5 _ rfl; rw [e5] at this; simpa [cells9] using this
  obtain ⟨z5, hz5, _⟩ := DataW.trod_string Try.underlying9 h5
  simp at hz0 hz1 hz2 hz3 hz4 hz5
  exact ⟨⟨z0, z1, z2, z3, z4, z5⟩, by rw [hz0, hz1, hz2, hz3, hz4, hz5]⟩
theorem leases_of {n : Nat} {v : Value} {x : DataW H × List MemPlace} (h : DataW.trod enc Try.prog W 0 (fun _ => true) true n 22 [v] = some x) :
    ∃ a len cap, ∃ f : Nat → LI, v = .slice a len cap ∧ Recs W a 6 len (fun i => (f i).c) ∧ (a = none → len = 0) ∧ len ≤ maxLen := by
  rcases Deep.open_slice Try.underlying22 h with ⟨h0, _⟩ | ⟨a, len, cap, m, k, D, Q, hcs, _, hl, hm, hmm, _, hx⟩
  · simp at h0
    subst h0
    exact ⟨none, 0, 0, fun _ => ⟨ByteArray.empty, ByteArray.empty, 0, 0, 0, ByteArray.empty⟩, rfl, ⟨fun h => by omega, fun i h => by omega⟩, fun _ => rfl, by unfold maxLen; omega⟩
  · simp at hcs
    subst hcs
    simp only [if_true] at hmm
    subst hmm
    rw [cells50] at hx
    obtain ⟨f, hf⟩ := @Deep.choose_lt LI ⟨⟨ByteArray.empty, ByteArray.empty, 0, 0, 0, ByteArray.empty⟩⟩ m (fun i v => W.cells? 0 (a.add (i * 6)) 6 = some [.string v.name, .string v.holder, .int .u64 v.token, .int .i64 v.ttl, .int .i64 v.rem, .string v.key]) (fun i hi => by
      obtain ⟨cs, h1, h2⟩ := hx i hi
      obtain ⟨v, rfl⟩ := lease_of h2
      exact ⟨v, h1⟩)
    have pl : 0 < len → (some a : Option Addr) = some ⟨blk (some a), ofs (some a), none⟩ := fun h => by
      have := (World.cells?_some (hf 0 (by omega))).2.2 0 (by omega)
      simp [Addr.add] at this
      exact plain_of this
    refine ⟨some a, len, m, f, rfl, ⟨pl, fun i hi j hj => ?_⟩, fun h => (by cases h), by omega⟩
    have := (World.cells?_some (hf i (by omega))).2.2 j hj
    rw [add_at (pl (by omega))] at this
    rw [this]
    match j, hj with
    | 0, _ => rfl
    | 1, _ => rfl
    | 2, _ => rfl
    | 3, _ => rfl
    | 4, _ => rfl
    | 5, _ => rfl
theorem rel_of {n : Nat} {cs : List Value} {x : DataW H × List MemPlace} (h : DataW.trod enc Try.prog W 0 (fun _ => true) true n 71 cs = some x) : ∃ v : RI, cs = [.int .u64 v.token, .string v.key, .int .i64 v.at_] := by
  obtain ⟨xs, m, _, _, hl, hxs, hf⟩ := DataW.trod_struct Try.underlying71 h
  rw [cells71] at hl
  obtain ⟨c0, c1, c2, rfl⟩ := list3 hl
  have get : ∀ i, i < 3 → ∃ y, xs[i]? = some y := fun i hi => ⟨xs[i]'(by rw [hxs]; exact hi), List.getElem?_eq_getElem _⟩
  obtain ⟨y0, e0⟩ := get 0 (by omega)
  have h0 : DataW.trod enc Try.prog W 0 (fun _ => true) true m 23 [c0] = some y0 := by have := hf 0 _ rfl; rw [e0] at this; simpa [cells23] using this
  obtain ⟨z0, hz0, _⟩ := DataW.trod_int Try.underlying23 h0
  obtain ⟨y1, e1⟩ := get 1 (by omega)
  have h1 : DataW.trod enc Try.prog W 0 (fun _ => true) true m 9 [c1] = some y1 := by have := hf 1 _ rfl; rw [e1] at this; simpa [cells9] using this
  obtain ⟨z1, hz1, _⟩ := DataW.trod_string Try.underlying9 h1
  obtain ⟨y2, e2⟩ := get 2 (by omega)
  have h2 : DataW.trod enc Try.prog W 0 (fun _ => true) true m 2 [c2] = some y2 := by have := hf 2 _ rfl; rw [e2] at this; simpa [cells2] using this
  obtain ⟨z2, hz2, _⟩ := DataW.trod_int Try.underlying2 h2
  simp at hz0 hz1 hz2
  exact ⟨⟨z0, z1, z2⟩, by rw [hz0, hz1, hz2]⟩
theorem rels_of {n : Nat} {v : Value} {x : DataW H × List MemPlace} (h : DataW.trod enc Try.prog W 0 (fun _ => true) true n 24 [v] = some x) :
    ∃ a len cap, ∃ f : Nat → RI, v = .slice a len cap ∧ Recs W a 3 len (fun i => (f i).c) ∧ (a = none → len = 0) ∧ len ≤ maxLen := by
  rcases Deep.open_slice Try.underlying24 h with ⟨h0, _⟩ | ⟨a, len, cap, m, k, D, Q, hcs, _, hl, hm, hmm, _, hx⟩
  · simp at h0
    subst h0
    exact ⟨none, 0, 0, fun _ => ⟨0, ByteArray.empty, 0⟩, rfl, ⟨fun h => by omega, fun i h => by omega⟩, fun _ => rfl, by unfold maxLen; omega⟩
  · simp at hcs
    subst hcs
    simp only [if_true] at hmm
    subst hmm
    rw [cells71] at hx
    obtain ⟨f, hf⟩ := @Deep.choose_lt RI ⟨⟨0, ByteArray.empty, 0⟩⟩ m (fun i v => W.cells? 0 (a.add (i * 3)) 3 = some [.int .u64 v.token, .string v.key, .int .i64 v.at_]) (fun i hi => by
      obtain ⟨cs, h1, h2⟩ := hx i hi
      obtain ⟨v, rfl⟩ := rel_of h2
      exact ⟨v, h1⟩)
    have pl : 0 < len → (some a : Option Addr) = some ⟨blk (some a), ofs (some a), none⟩ := fun h => by
      have := (World.cells?_some (hf 0 (by omega))).2.2 0 (by omega)
      simp [Addr.add] at this
      exact plain_of this
    refine ⟨some a, len, m, f, rfl, ⟨pl, fun i hi j hj => ?_⟩, fun h => (by cases h), by omega⟩
    have := (World.cells?_some (hf i (by omega))).2.2 j hj
    rw [add_at (pl (by omega))] at this
    rw [this]
    match j, hj with
    | 0, _ => rfl
    | 1, _ => rfl
    | 2, _ => rfl
theorem bud_of {n : Nat} {cs : List Value} {x : DataW H × List MemPlace} (h : DataW.trod enc Try.prog W 0 (fun _ => true) true n 58 cs = some x) : ∃ v : BI, cs = [.string v.name, .int .u64 v.units, .int .u64 v.granted] := by
  obtain ⟨xs, m, _, _, hl, hxs, hf⟩ := DataW.trod_struct Try.underlying58 h
  rw [cells58] at hl
  obtain ⟨c0, c1, c2, rfl⟩ := list3 hl
  have get : ∀ i, i < 3 → ∃ y, xs[i]? = some y := fun i hi => ⟨xs[i]'(by rw [hxs]; exact hi), List.getElem?_eq_getElem _⟩
  obtain ⟨y0, e0⟩ := get 0 (by omega)
  have h0 : DataW.trod enc Try.prog W 0 (fun _ => true) true m 9 [c0] = some y0 := by have := hf 0 _ rfl; rw [e0] at this; simpa [cells9] using this
  obtain ⟨z0, hz0, _⟩ := DataW.trod_string Try.underlying9 h0
  obtain ⟨y1, e1⟩ := get 1 (by omega)
  have h1 : DataW.trod enc Try.prog W 0 (fun _ => true) true m 23 [c1] = some y1 := by have := hf 1 _ rfl; rw [e1] at this; simpa [cells23] using this
  obtain ⟨z1, hz1, _⟩ := DataW.trod_int Try.underlying23 h1
  obtain ⟨y2, e2⟩ := get 2 (by omega)
  have h2 : DataW.trod enc Try.prog W 0 (fun _ => true) true m 23 [c2] = some y2 := by have := hf 2 _ rfl; rw [e2] at this; simpa [cells23] using this
  obtain ⟨z2, hz2, _⟩ := DataW.trod_int Try.underlying23 h2
  simp at hz0 hz1 hz2
  exact ⟨⟨z0, z1, z2⟩, by rw [hz0, hz1, hz2]⟩
theorem buds_of {n : Nat} {v : Value} {x : DataW H × List MemPlace} (h : DataW.trod enc Try.prog W 0 (fun _ => true) true n 25 [v] = some x) :
    ∃ a len cap, ∃ f : Nat → BI, v = .slice a len cap ∧ Recs W a 3 len (fun i => (f i).c) ∧ (a = none → len = 0) ∧ len ≤ maxLen := by
  rcases Deep.open_slice Try.underlying25 h with ⟨h0, _⟩ | ⟨a, len, cap, m, k, D, Q, hcs, _, hl, hm, hmm, _, hx⟩
  · simp at h0
    subst h0
    exact ⟨none, 0, 0, fun _ => ⟨ByteArray.empty, 0, 0⟩, rfl, ⟨fun h => by omega, fun i h => by omega⟩, fun _ => rfl, by unfold maxLen; omega⟩
  · simp at hcs
    subst hcs
    simp only [if_true] at hmm
    subst hmm
    rw [cells58] at hx
    obtain ⟨f, hf⟩ := @Deep.choose_lt BI ⟨⟨ByteArray.empty, 0, 0⟩⟩ m (fun i v => W.cells? 0 (a.add (i * 3)) 3 = some [.string v.name, .int .u64 v.units, .int .u64 v.granted]) (fun i hi => by
      obtain ⟨cs, h1, h2⟩ := hx i hi
      obtain ⟨v, rfl⟩ := bud_of h2
      exact ⟨v, h1⟩)
    have pl : 0 < len → (some a : Option Addr) = some ⟨blk (some a), ofs (some a), none⟩ := fun h => by
      have := (World.cells?_some (hf 0 (by omega))).2.2 0 (by omega)
      simp [Addr.add] at this
      exact plain_of this
    refine ⟨some a, len, m, f, rfl, ⟨pl, fun i hi j hj => ?_⟩, fun h => (by cases h), by omega⟩
    have := (World.cells?_some (hf i (by omega))).2.2 j hj
    rw [add_at (pl (by omega))] at this
    rw [this]
    match j, hj with
    | 0, _ => rfl
    | 1, _ => rfl
    | 2, _ => rfl
theorem grant_of {n : Nat} {cs : List Value} {x : DataW H × List MemPlace} (h : DataW.trod enc Try.prog W 0 (fun _ => true) true n 66 cs = some x) : ∃ v : GI, cs = [.string v.budget, .string v.holder, .int .u64 v.token, .int .u64 v.units, .int .i64 v.ttl, .int .i64 v.rem, .string v.key] := by
  obtain ⟨xs, m, _, _, hl, hxs, hf⟩ := DataW.trod_struct Try.underlying66 h
  rw [cells66] at hl
  obtain ⟨c0, c1, c2, c3, c4, c5, c6, rfl⟩ := list7 hl
  have get : ∀ i, i < 7 → ∃ y, xs[i]? = some y := fun i hi => ⟨xs[i]'(by rw [hxs]; exact hi), List.getElem?_eq_getElem _⟩
  obtain ⟨y0, e0⟩ := get 0 (by omega)
  have h0 : DataW.trod enc Try.prog W 0 (fun _ => true) true m 9 [c0] = some y0 := by have := hf 0 _ rfl; rw [e0] at this; simpa [cells9] using this
  obtain ⟨z0, hz0, _⟩ := DataW.trod_string Try.underlying9 h0
  obtain ⟨y1, e1⟩ := get 1 (by omega)
  have h1 : DataW.trod enc Try.prog W 0 (fun _ => true) true m 9 [c1] = some y1 := by have := hf 1 _ rfl; rw [e1] at this; simpa [cells9] using this
  obtain ⟨z1, hz1, _⟩ := DataW.trod_string Try.underlying9 h1
  obtain ⟨y2, e2⟩ := get 2 (by omega)
  have h2 : DataW.trod enc Try.prog W 0 (fun _ => true) true m 23 [c2] = some y2 := by have := hf 2 _ rfl; rw [e2] at this; simpa [cells23] using this
  obtain ⟨z2, hz2, _⟩ := DataW.trod_int Try.underlying23 h2
  obtain ⟨y3, e3⟩ := get 3 (by omega)
  have h3 : DataW.trod enc Try.prog W 0 (fun _ => true) true m 23 [c3] = some y3 := by have := hf 3 _ rfl; rw [e3] at this; simpa [cells23] using this
  obtain ⟨z3, hz3, _⟩ := DataW.trod_int Try.underlying23 h3
  obtain ⟨y4, e4⟩ := get 4 (by omega)
  have h4 : DataW.trod enc Try.prog W 0 (fun _ => true) true m 2 [c4] = some y4 := by have := hf 4 _ rfl; rw [e4] at this; simpa [cells2] using this
  obtain ⟨z4, hz4, _⟩ := DataW.trod_int Try.underlying2 h4
  obtain ⟨y5, e5⟩ := get 5 (by omega)
  have h5 : DataW.trod enc Try.prog W 0 (fun _ => true) true m 2 [c5] = some y5 := by have := hf 5 _ rfl; rw [e5] at this; simpa [cells2] using this
  obtain ⟨z5, hz5, _⟩ := DataW.trod_int Try.underlying2 h5
  obtain ⟨y6, e6⟩ := get 6 (by omega)
  have h6 : DataW.trod enc Try.prog W 0 (fun _ => true) true m 9 [c6] = some y6 := by have := hf 6 _ rfl; rw [e6] at this; simpa [cells9] using this
  obtain ⟨z6, hz6, _⟩ := DataW.trod_string Try.underlying9 h6
  simp at hz0 hz1 hz2 hz3 hz4 hz5 hz6
  exact ⟨⟨z0, z1, z2, z3, z4, z5, z6⟩, by rw [hz0, hz1, hz2, hz3, hz4, hz5, hz6]⟩
theorem grants_of {n : Nat} {v : Value} {x : DataW H × List MemPlace} (h : DataW.trod enc Try.prog W 0 (fun _ => true) true n 26 [v] = some x) :
    ∃ a len cap, ∃ f : Nat → GI, v = .slice a len cap ∧ Recs W a 7 len (fun i => (f i).c) ∧ (a = none → len = 0) ∧ len ≤ maxLen := by
  rcases Deep.open_slice Try.underlying26 h with ⟨h0, _⟩ | ⟨a, len, cap, m, k, D, Q, hcs, _, hl, hm, hmm, _, hx⟩
  · simp at h0
    subst h0
    exact ⟨none, 0, 0, fun _ => ⟨ByteArray.empty, ByteArray.empty, 0, 0, 0, 0, ByteArray.empty⟩, rfl, ⟨fun h => by omega, fun i h => by omega⟩, fun _ => rfl, by unfold maxLen; omega⟩
  · simp at hcs
    subst hcs
    simp only [if_true] at hmm
    subst hmm
    rw [cells66] at hx
    obtain ⟨f, hf⟩ := @Deep.choose_lt GI ⟨⟨ByteArray.empty, ByteArray.empty, 0, 0, 0, 0, ByteArray.empty⟩⟩ m (fun i v => W.cells? 0 (a.add (i * 7)) 7 = some [.string v.budget, .string v.holder, .int .u64 v.token, .int .u64 v.units, .int .i64 v.ttl, .int .i64 v.rem, .string v.key]) (fun i hi => by
      obtain ⟨cs, h1, h2⟩ := hx i hi
      obtain ⟨v, rfl⟩ := grant_of h2
      exact ⟨v, h1⟩)
    have pl : 0 < len → (some a : Option Addr) = some ⟨blk (some a), ofs (some a), none⟩ := fun h => by
      have := (World.cells?_some (hf 0 (by omega))).2.2 0 (by omega)
      simp [Addr.add] at this
      exact plain_of this
    refine ⟨some a, len, m, f, rfl, ⟨pl, fun i hi j hj => ?_⟩, fun h => (by cases h), by omega⟩
    have := (World.cells?_some (hf i (by omega))).2.2 j hj
    rw [add_at (pl (by omega))] at this
    rw [this]
    match j, hj with
    | 0, _ => rfl
    | 1, _ => rfl
    | 2, _ => rfl
    | 3, _ => rfl
    | 4, _ => rfl
    | 5, _ => rfl
    | 6, _ => rfl
end
end Go.Proofs.Qxb6628443a
