import Derived.Test.Qxb6628425aFmtW1
import Derived.Maps.OwnSet
namespace Go.Proofs.Qxb6628425aFmt
open Go.RowKit Go.Maps Go.WideMaps

def keyL (x : ByteArray) : Lit := .string x.data.toList
theorem keyL_inj {x y : ByteArray} (h : keyL x = keyL y) : x = y := by
  injection h with h
  cases x with | mk a => cases y with | mk b =>
    simp at h
    rw [h]

/-- The set so far: K without repeats, the map's datum D. -/
structure SetOf (K : List ByteArray) (D : DataW Unit) : Prop where
  tidy : Tidy D
  nodup : K.Nodup
  size : Maps.size D = K.length
  has : ∀ x, Maps.has D (keyL x) = true ↔ x ∈ K
theorem SetOf.nil : SetOf [] (.map []) := ⟨tidy_empty, List.nodup_nil, rfl, fun x => by simp [Maps.has]⟩
theorem SetOf.put {K : List ByteArray} {D : DataW Unit} (h : SetOf K D) (x : ByteArray) (d : DataW Unit) : ∃ K', SetOf K' (D.put (keyL x) d) ∧ ∀ y, y ∈ K' ↔ y ∈ K ∨ y = x := by
  have hk : WideAt.IsKeyLit (keyL x) := trivial
  have ht := h.tidy.put hk d
  have hother : ∀ y, y ≠ x → (Maps.has (D.put (keyL x) d) (keyL y) = true ↔ y ∈ K) := fun y hy => by
    rw [has_put_other (fun e => hy (keyL_inj e))]; exact h.has y
  have hsame := has_put_same (D := D) h.tidy.isMap hk d
  by_cases hx : x ∈ K
  · refine ⟨K, ⟨ht, h.nodup, ?_, fun y => ?_⟩, fun y => ⟨fun hy => .inl hy, fun hy => hy.elim id (fun e => e ▸ hx)⟩⟩
    · rw [size_put h.tidy, if_pos ((h.has x).2 hx)]; exact h.size
    · by_cases e : y = x
      · subst e; exact ⟨fun _ => hx, fun _ => hsame⟩
      · exact hother y e
  · refine ⟨K ++ [x], ⟨ht, ?_, ?_, fun y => ?_⟩, fun y => by simp⟩
    · rw [List.nodup_append]
      exact ⟨h.nodup, by simp, fun a ha b hb => by simp at hb; subst hb; exact fun e => hx (e ▸ ha)⟩
    · have : ¬ Maps.has D (keyL x) = true := fun e => hx ((h.has x).1 e)
      rw [size_put h.tidy, if_neg this, h.size]; simp
    · by_cases e : y = x
      · subst e; simp [hsame]
      · rw [hother y e]; simp [e]

/-- How many different ones of ids are not among rel. -/
def CntRet (w : World) (ids rel : List ByteArray) (e : Ending) (w' : World) : Prop :=
  ∃ K : List ByteArray, K.Nodup ∧ (∀ x, x ∈ K ↔ x ∈ ids ∧ x ∉ rel) ∧ e = .returned (.int .i64 K.length) ∧ Below w.heap.size w w'

theorem take_mem {l : List ByteArray} {k : Nat} (h : k < l.length) (x : ByteArray) : x ∈ l.take (k + 1) ↔ x ∈ l.take k ∨ x = nth l k := by
  rw [List.take_succ_eq_append_getElem h, nth_eq h, List.mem_append, List.mem_singleton]

theorem law9 : Keyed Tryf.prog 9 := string_keyed Tryf.underlying9

set_option maxRecDepth 100000 in
set_option maxHeartbeats 1000000 in
theorem nonRelated (bb : Nat) (ra : Option Addr) (rel : List ByteArray) (rc : Nat) (ia : Option Addr) (ids : List ByteArray) (ic : Nat) (w : World)
    (hb1 : w.cell? ⟨bb, 1, none⟩ = some (.slice ra rel.length rc)) (hr : StrsIn w ra rel) (hi : StrsIn w ia ids) (br : rel.length ≤ 1048576) (bi : ids.length ≤ 1048576) (bs : ∀ x ∈ ids, x.size ≤ 1048576) :
    Calls Tryf.prog 13 #[.pointer (some ⟨bb, 0, none⟩), .slice ia ids.length ic] w (CntRet w ids rel) := by
  have hmm := @run_makeMap Tryf.prog
  have HR := hide hr
  have HI := hide hi
  have BS := hide bs
  have hbl := lt_of_cell hb1
  clear hr hi bs
  go_enter Tryf.func13, Tryf.ntmps13
  go_wp2
  go_loopw [11] (fun i wr => ∃ (k : Nat) (K : List ByteArray) (D : DataW Unit), k ≤ ids.length ∧ i = .int .i64 k ∧ wr.ownsMap Tryf.prog 9 (plainElem Tryf.prog 4) w.heap.size k D ∧ Below w.heap.size w wr ∧ SetOf K D ∧ ∀ x, x ∈ K ↔ x ∈ ids.take k ∧ x ∉ rel)
    (fun i _ => ids.length - (intOf i).toNat)
  case atStart => exact ⟨0, [], .map [], Nat.zero_le _, rfl, World.ownsMap_made _ _ _ _, below1 _ _, SetOf.nil, fun x => by simp⟩
  case round =>
    obtain ⟨k, K, D, hk, rfl, hown, hnx, hset, hmem⟩ := hrel
    have HB := hide hnx
    have HSET := hide hset
    have HM := hide hmem
    clear hnx hset hmem
    by_cases hlt : k < ids.length
    · have hidx := fun w => run_index_at (P := Tryf.prog) (c := ic) Tryf.underlying22 size9 HI.out.pl hlt w
      have hc := cell_below HB.out (HI.out.c0 k hlt) (HI.out.lt k hlt)
      have hc1 := cell_below HB.out hb1 hbl
      have hkey : keyOf Tryf.prog 9 (.string (nth ids k)) = some (keyL (nth ids k)) := keyOf_string_mk Tryf.underlying9 (by have := BS.out (nth ids k) (has_iff.1 (has_nth hlt)); unfold maxLen; omega)
      have SR := HR.out.below HB.out
      cases g : has rel (nth ids k)
      · have hno := hide (has_not.1 g)
        go_wp2_with (first
          | (go_at_call 11; refine (contains ra rel rc (nth ids k) _ SR br).mono ?_; rintro e w' ⟨rfl, rfl⟩)
          | (at_mapUpdate; refine wpList_mapUpdate_own _ rfl _ _ _ 43 rfl 9 4 law9 Tryf.underlying43 (plainElem (H := Unit) Tryf.prog 4) w.heap.size k _ rfl hown (by unfold maxLen; omega) _ _ _ rfl rfl hkey _ [] (plainElem_bool Tryf.underlying4 true) ?_; intro w1 hown1 hgrow1))
        obtain ⟨K', hK', hm'⟩ := HSET.out.put (nth ids k) (.lit (.bool true))
        go_roundw
        case rel => exact ⟨k + 1, K', _, by omega, by go_num, hown1, HB.out.grown hgrow1 HB.out.size (fun j hj => by cases hj; exact Nat.le_refl _), hK', fun x => by
          rw [hm' x, HM.out x, take_mem hlt]
          constructor
          · rintro (⟨h1, h2⟩ | rfl)
            · exact ⟨.inl h1, h2⟩
            · exact ⟨.inr rfl, hno.out⟩
          · rintro ⟨h1 | h1, h2⟩
            · exact .inl ⟨h1, h2⟩
            · exact .inr h1⟩
        case measure => simp [intOf]; omega
      · have hyes := hide (has_iff.1 g)
        go_wp2_with (go_at_call 11; refine (contains ra rel rc (nth ids k) _ SR br).mono ?_; rintro e w' ⟨rfl, rfl⟩)
        go_roundw
        case rel => exact ⟨k + 1, K, D, by omega, by go_num, hown.mono (by omega), HB.out, HSET.out, fun x => by
          rw [HM.out x, take_mem hlt]
          constructor
          · rintro ⟨h1, h2⟩; exact ⟨.inl h1, h2⟩
          · rintro ⟨h1 | h1, h2⟩
            · exact ⟨h1, h2⟩
            · exact absurd (h1 ▸ hyes.out) h2⟩
        case measure => simp [intOf]; omega
    · obtain rfl : k = ids.length := by omega
      go_wp2_with (at_len; refine wpList_len_own _ rfl _ 43 rfl 9 4 Tryf.underlying43 _ w.heap.size ids.length _ rfl hown ?_)
      go_ret
      exact ⟨K, HSET.out.nodup, fun x => by rw [HM.out x, List.take_length], by rw [← HSET.out.size]; rfl, HB.out⟩
end Go.Proofs.Qxb6628425aFmt
