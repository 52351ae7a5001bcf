/-
  Seat b6628443a. A map in memory as a plain list of entries; what an update and a look-up do to it.
-/
import Derived.Test.Qxb6628443aPlain
import Derived.Test.Qxb6628443aFam
import Derived.WideMake
namespace Go.Proofs.Qxb6628443a
open Go.RowKit

/-- How a key is written as a value. -/
structure Enc {κ : Type} [DecidableEq κ] (enc : κ → Value) (d : TypeDesc) : Prop where
  same : ∀ a b, Instr.sameNow d (enc a) (enc b) = some (decide (a = b))
  key : ∀ a, MapKept.IsKey d (enc a)
  bits : ∀ a, Instr.sameBits 10000 (enc a) (enc a) = true
theorem encS : Enc (fun s : ByteArray => Value.string s) .string := by
  refine ⟨fun a b => ?_, fun a => trivial, fun a => ?_⟩
  · show some (a == b) = _
    congr 1
    by_cases h : a = b
    · subst h; simp [(MapKept.bytes_beq a a).2 rfl]
    · have : (a == b) = false := by
        cases g : (a == b)
        · rfl
        · exact absurd ((MapKept.bytes_beq a b).1 g) h
      simp [this, h]
  · exact (MapKept.bytes_beq a a).2 rfl
theorem encI : Enc (fun x : Int => Value.int .u64 x) (.int .u64) := by
  refine ⟨fun a b => ?_, fun a => rfl, fun a => ?_⟩
  · simp [Instr.sameNow, BEq.beq]
  · simp [Instr.sameBits]

def pairs (es : List MapEntry) : List (Value × Value) := es.map (fun e => (e.key, e.val))
def encs {κ : Type} (enc : κ → Value) (l : List (κ × Value)) : List (Value × Value) := l.map (fun p => (enc p.1, p.2))

/-- A map with these entries lies in the block. -/
def MapAt {κ : Type} (enc : κ → Value) (w : World) (b : Nat) (l : List (κ × Value)) : Prop :=
  ∃ es clock, w.heap[b]? = some (.map es clock) ∧ pairs es.toList = encs enc l
/-- The block's object is another one. -/
def putObj (w : World) (b : Nat) (o : Obj) : World := { w with heap := w.heap.setIfInBounds b o }

variable {κ : Type} [DecidableEq κ] {enc : κ → Value} {d : TypeDesc}

theorem find_none (E : Enc enc d) {k : κ} (v : Value) : ∀ {l : List (κ × Value)} {es : List MapEntry} {i : Nat}, pairs es = encs enc l → look k l = none → Instr.findNow d (enc k) es i = some none ∧ encs enc (putL k v l) = encs enc l ++ [(enc k, v)]
  | [], [], _, _, _ => ⟨rfl, rfl⟩
  | [], _ :: _, _, h, _ => by simp [pairs, encs] at h
  | _ :: _, [], _, h, _ => by simp [pairs, encs] at h
  | (k', v') :: l, e :: es, i, h, hl => by
    simp only [pairs, encs, List.map_cons, List.cons.injEq, Prod.mk.injEq] at h
    obtain ⟨⟨h1, h2⟩, h3⟩ := h
    by_cases g : k' = k
    · simp [look, g] at hl
    · simp only [look, g, if_false] at hl
      obtain ⟨a1, a2⟩ := find_none E v (es := es) (i := i + 1) h3 hl
      have g' : ¬ k = k' := fun e => g e.symm
      refine ⟨?_, ?_⟩
      · rw [Instr.findNow, h1, E.same]
        simp only [g', decide_false]
        exact a1
      · simp only [putL, g, if_false]
        simp only [encs, List.map_cons] at a2 ⊢
        rw [a2]
        rfl
theorem find_some (E : Enc enc d) {k : κ} {u : Value} : ∀ {l : List (κ × Value)} {es : List MapEntry} {i : Nat}, pairs es = encs enc l → look k l = some u →
    ∃ j e, Instr.findNow d (enc k) es i = some (some (i + j, u)) ∧ es[j]? = some e ∧ e.key = enc k ∧ ∀ v, pairs (es.modify j fun e => { e with key := enc k, val := v }) = encs enc (putL k v l)
  | [], _, _, _, hl => by simp [look] at hl
  | _ :: _, [], _, h, _ => by simp [pairs, encs] at h
  | (k', v') :: l, e :: es, i, h, hl => by
    simp only [pairs, encs, List.map_cons, List.cons.injEq, Prod.mk.injEq] at h
    obtain ⟨⟨h1, h2⟩, h3⟩ := h
    by_cases g : k' = k
    · subst g
      simp only [look, if_true, Option.some.injEq] at hl
      refine ⟨0, e, ?_, rfl, h1, fun v => ?_⟩
      · rw [Instr.findNow, h1, E.same]
        simp only [decide_true, h2, hl, Nat.add_zero]
      · simp only [putL, if_true, List.modify_zero_cons, pairs, encs, List.map_cons, h3]
    · simp only [look, g, if_false] at hl
      obtain ⟨j, e', a1, a2, a3, a4⟩ := find_some E (es := es) (i := i + 1) h3 hl
      have g' : ¬ k = k' := fun e => g e.symm
      refine ⟨j + 1, e', ?_, ?_, a3, fun v => ?_⟩
      · rw [Instr.findNow, h1, E.same]
        simp only [g', decide_false]
        rw [a1, show i + 1 + j = i + (j + 1) by omega]
      · simpa using a2
      · have := a4 v
        simp only [putL, g, if_false, List.modify_succ_cons, pairs, encs, List.map_cons] at this ⊢
        rw [this, h1, h2]

theorem run_keyStays {P : Program} {w : World} (E : Enc enc d) (k : κ) : (Instr.keyThatStays (enc k) (enc k)).run P w = .ok (enc k) w := by
  simp [Instr.keyThatStays, E.bits k]

/-- 'm[k] = v'. -/
theorem run_put {P : Program} (E : Enc enc d) {mty kt et : TypeId} {w : World} {b : Nat} {l : List (κ × Value)} (hm : P.underlying mty = some (.map kt et)) (hk : P.underlying kt = some d) (h : MapAt enc w b l) (k : κ) (v : Value) :
    ∃ o, (Instr.mapUpdate mty (.map (some b)) (enc k) v).run P w = .ok () (putObj w b o) ∧ MapAt enc (putObj w b o) b (putL k v l) := by
  obtain ⟨es, clock, hb, hp⟩ := h
  have hc : (Instr.checkKey false 10000 kt (enc k)).run P w = .ok () w := MapKept.run_checkKey hk (E.key k) false 9999
  have hs : ∀ o, (putObj w b o).heap[b]? = some o := fun o => (MapKept.heap_set hb).1
  cases hl : look k l with
  | none =>
    obtain ⟨a1, a2⟩ := find_none E v (i := 0) hp hl
    refine ⟨.map (es.push { key := enc k, val := v, born := clock }) (clock + 1), ?_, ?_⟩
    · simp [Instr.mapUpdate, run_underlying hm, MapKept.run_getObj_map hb, hc, MapKept.run_findKey hk a1, MapKept.run_setObj_map _ hb, Result.andThen, putObj]
    · refine ⟨_, _, hs _, ?_⟩
      rw [a2, ← hp]
      simp [pairs]
  | some u =>
    obtain ⟨j, e, a1, a2, a3, a4⟩ := find_some E (i := 0) hp hl
    rw [Nat.zero_add] at a1
    have a5 : es[j]? = some e := by rw [← Array.getElem?_toList]; exact a2
    have hks := run_keyStays (P := P) (w := w) E k
    refine ⟨.map (es.modify j fun e => { e with key := enc k, val := v }) clock, ?_, ?_⟩
    · simp [Instr.mapUpdate, run_underlying hm, MapKept.run_getObj_map hb, hc, MapKept.run_findKey hk a1, MapKept.run_setObj_map _ hb, Result.andThen, putObj, a5, a3, hks]
    · refine ⟨_, _, hs _, ?_⟩
      rw [Array.toList_modify]
      exact a4 v
/-- 'v, ok := m[k]', the key being there. -/
theorem run_look {P : Program} (E : Enc enc d) {mty kt et : TypeId} {w : World} {b : Nat} {l : List (κ × Value)} (hm : P.underlying mty = some (.map kt et)) (hk : P.underlying kt = some d) (h : MapAt enc w b l) {k : κ} {u : Value} (hl : look k l = some u) :
    (Instr.lookup mty (.map (some b)) (enc k) true).run P w = .ok (.tuple #[u, .bool true]) w := by
  obtain ⟨es, clock, hb, hp⟩ := h
  have hc : ∀ e, (Instr.checkKey e 10000 kt (enc k)).run P w = .ok () w := fun e => MapKept.run_checkKey hk (E.key k) e 9999
  obtain ⟨j, e, a1, a2, a3, a4⟩ := find_some E (i := 0) hp hl
  simp [Instr.lookup, run_underlying hm, MapKept.run_getObj_map hb, hc, MapKept.run_findKey hk a1, Result.andThen]

omit [DecidableEq κ] in
theorem MapAt.keep {w w' : World} {b B : Nat} {l : List (κ × Value)} (h : MapAt enc w b l) (hb : Below B w w') (hB : b < B) : MapAt enc w' b l := by
  obtain ⟨es, clock, h1, h2⟩ := h
  exact ⟨es, clock, (hb.block b hB).trans h1, h2⟩
omit [DecidableEq κ] in
theorem MapAt.lt {w : World} {b : Nat} {l : List (κ × Value)} (h : MapAt enc w b l) : b < w.heap.size := by
  obtain ⟨es, clock, h1, h2⟩ := h
  exact (Array.getElem?_eq_some_iff.1 h1).1
omit [DecidableEq κ] in
theorem MapAt.other {w : World} {b q : Nat} {o : Obj} {l : List (κ × Value)} (h : MapAt enc w b l) (hq : q ≠ b) : MapAt enc (putObj w q o) b l := by
  obtain ⟨es, clock, h1, h2⟩ := h
  exact ⟨es, clock, by simp [putObj, hq, h1], h2⟩
omit [DecidableEq κ] in
theorem MapAt.new (w : World) : MapAt enc (w.alloc (.map #[] 0)) w.heap.size [] := ⟨#[], 0, (MapKept.heap_alloc w _).1, rfl⟩
theorem putObj_size (w : World) (b : Nat) (o : Obj) : (putObj w b o).heap.size = w.heap.size := by simp [putObj]
theorem putObj_below {w w' : World} {B b : Nat} (o : Obj) (h : Below B w w') (hB : B ≤ b) : Below B w (putObj w' b o) :=
  ⟨h.os, h.tape, h.output, by rw [putObj_size]; exact h.size, fun k hk => by
    have : b ≠ k := by omega
    rw [← h.block k hk]; simp [putObj, this]⟩
theorem putObj_cell (w : World) (b : Nat) (o : Obj) (p : Addr) (hp : p.block ≠ b) : (putObj w b o).cell? p = w.cell? p := by
  have hp : b ≠ p.block := fun e => hp e.symm
  simp [World.cell?, putObj, hp]
end Go.Proofs.Qxb6628443a
