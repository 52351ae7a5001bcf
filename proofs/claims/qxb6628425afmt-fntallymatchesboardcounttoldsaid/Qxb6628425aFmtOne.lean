import Derived.Test.Qxb6628425aFmtW4
import Derived.Test.Qxb6628425aFmtW5
import Derived.Test.Qxb6628425aFmtW7
import Derived.BigQuiet
import Derived.Deep.QuietTactic
namespace Go.Proofs.Qxb6628425aFmt
open Go.RowKit

/-- All that comes in. -/
structure Inp (w : World) (ma : Option Addr) (M : List ByteArray) (ra : Option Addr) (R : List ByteArray) (pa : Option Addr) (Q : List ByteArray) (va : Option Addr) (U : List ByteArray) : Prop where
  m : StrsIn w ma M
  r : StrsIn w ra R
  q : StrsIn w pa Q
  u : StrsIn w va U
  bm : M.length ≤ maxLen
  br : R.length ≤ maxLen
  bq : Q.length ≤ maxLen
  bu : U.length ≤ maxLen
theorem Inp.below {w w' : World} {ma : Option Addr} {M : List ByteArray} {ra : Option Addr} {R : List ByteArray} {pa : Option Addr} {Q : List ByteArray} {va : Option Addr} {U : List ByteArray} (i : Inp w ma M ra R pa Q va U) (hb : Below w.heap.size w w') : Inp w' ma M ra R pa Q va U :=
  ⟨i.m.below hb, i.r.below hb, i.q.below hb, i.u.below hb, i.bm, i.br, i.bq, i.bu⟩

theorem info9 : (Tryf.prog.info? 9).map (fun i => (i.zero, i.size, i.bytes)) = some (some (.string ⟨#[]⟩), 1, 16) := by kernel_rfl
def strs (l : List ByteArray) : List Value := l.map Value.string

theorem strs_take {Q : List ByteArray} {j : Nat} (h : j < Q.length) : strs (Q.take (j + 1)) = strs (Q.take j) ++ [.string (nth Q j)] := by
  unfold strs
  rw [List.take_succ_eq_append_getElem h, List.map_append, nth_eq h]
  rfl
theorem ownsRow_lt {w : World} {base g n c : Nat} {e : TypeId} {sz : Nat} {xs : List Value} (h : w.ownsRow base e sz (.slice (some ⟨g, 0, none⟩) n c) n xs) : g < w.heap.size := by
  rcases h.2 with ⟨h', _⟩ | ⟨g', cap', cur, h', _, hg, _⟩
  · simp at h'
  · simp only [Value.slice.injEq, Option.some.injEq, Addr.mk.injEq, and_true, true_and] at h'
    obtain ⟨rfl, rfl⟩ := h'
    exact (Array.getElem?_eq_some_iff.1 hg).1
/-- The one element laid for an append. -/
theorem one_new (w : World) (v : Value) (t : TypeId) : ∀ j u, [v][j]? = some u → (w.alloc (.cells #[v] t)).cell? ((⟨w.heap.size, 0, none⟩ : Addr).add j) = some u := by
  intro j u hj
  match j, hj with
  | 0, hj => simp at hj; subst hj; simp [Addr.add]
theorem grown_below {W wr w3 : World} {o : Obj} (hb : Below W.heap.size W wr) (lw : W.heap.size < wr.heap.size) (hg : (wr.alloc o).grownBy w3 (some W.heap.size)) : Below W.heap.size W w3 :=
  (hb.alloc (Nat.le_of_lt lw) o).grown hg (by simp; omega) (fun k e => by cases e; exact Nat.le_refl _)
theorem grown_lt {W wr w3 : World} {o : Obj} {r : Option Nat} (lw : W.heap.size < wr.heap.size) (hg : (wr.alloc o).grownBy w3 r) : W.heap.size < w3.heap.size := by
  have := hg.size
  simp at this
  omega

/-- 'present' with x put in at place j. -/
def insAt (Q : List ByteArray) (x : ByteArray) (j i : Nat) : List ByteArray := Q.take j ++ [x] ++ (Q.take i).drop j
theorem ins_start (Q : List ByteArray) (x : ByteArray) (j : Nat) : strs (insAt Q x j j) = strs (Q.take j) ++ [.string x] := by
  have : (Q.take j).drop j = [] := by rw [List.drop_eq_nil_iff]; simp; omega
  simp [insAt, strs, this]
theorem ins_step {Q : List ByteArray} {x : ByteArray} {j i : Nat} (hji : j ≤ i) (h : i < Q.length) : strs (insAt Q x j (i + 1)) = strs (insAt Q x j i) ++ [.string (nth Q i)] := by
  unfold insAt strs
  rw [List.take_succ_eq_append_getElem h, List.drop_append_of_le_length (by simp; omega), nth_eq h]
  simp
theorem ins_end (Q : List ByteArray) (x : ByteArray) (j : Nat) : insAt Q x j Q.length = Q.take j ++ [x] ++ Q.drop j := by simp [insAt]
theorem ins_mem {Q : List ByteArray} {x : ByteArray} {j : Nat} (y : ByteArray) : y ∈ insAt Q x j Q.length ↔ y = x ∨ y ∈ Q := by
  rw [ins_end]
  have : y ∈ Q ↔ y ∈ Q.take j ∨ y ∈ Q.drop j := by rw [← List.mem_append, List.take_append_drop]
  rw [this]
  simp only [List.mem_append, List.mem_singleton]
  constructor
  · rintro ((h | h) | h)
    · exact .inr (.inl h)
    · exact .inl h
    · exact .inr (.inr h)
  · rintro (h | h | h)
    · exact .inl (.inr h)
    · exact .inl (.inl h)
    · exact .inr h
theorem ins_len {Q : List ByteArray} {x : ByteArray} {j : Nat} (h : j ≤ Q.length) : (insAt Q x j Q.length).length = Q.length + 1 := by rw [ins_end]; simp; omega
/-- A row that the call owns, as strings at a slice's address. -/
theorem strsIn_of_owns {w : World} {base g c : Nat} {l : List ByteArray} {n : Nat} (hn : n = l.length) (h : w.ownsRow base 9 1 (.slice (some ⟨g, 0, none⟩) n c) n (strs l)) : StrsIn w (some ⟨g, 0, none⟩) l := by
  subst hn
  have e1 : blk (some ⟨g, 0, none⟩) = g := rfl
  have e2 : ofs (some ⟨g, 0, none⟩) = 0 := rfl
  refine ⟨fun _ => rfl, fun i hi => ?_⟩
  rw [e1, e2, Nat.zero_add, h.cellAt i (by omega)]
  simp [strs, nth, hi]

/-- What 'Tally' hands back, the value written out. -/
def TVal (M R Pr Vo : List ByteArray) (d p f : Int) (q s c : Bool) (E : Value) : Prop :=
  (Bad M Pr Vo ∧ d = 0 ∧ p = 0 ∧ f = 0 ∧ q = false ∧ s = false ∧ c = false ∧ ∃ a : Addr, E = .iface 44 (.pointer (some a))) ∨
  (¬ Bad M Pr Vo ∧ E = .nilIface ∧ ∃ Kp Kv : List ByteArray, Kp.Nodup ∧ (∀ x, x ∈ Kp ↔ x ∈ Pr ∧ x ∉ R) ∧ Kv.Nodup ∧ (∀ x, x ∈ Kv ↔ x ∈ Vo ∧ x ∉ R) ∧
    d = (M.length : Int) - R.length ∧ p = Kp.length ∧ f = Kv.length ∧ q = decide (d < 2 * p) ∧ s = decide (p < 3) ∧ c = (!decide (p < 3) && decide (d < 2 * f)) ∧ Kp.length ≤ Pr.length)
theorem tally_val {w w' : World} {M R Pr Vo : List ByteArray} {e : Ending} (h : TallyRet w M R Pr Vo e w') :
    ∃ d p f q s c E, e = .returned (.tuple #[.agg #[.int .i64 d, .int .i64 p, .int .i64 f, .bool q, .bool s, .bool c], E]) ∧ TVal M R Pr Vo d p f q s c E := by
  rcases h.2 with ⟨hb, a, rfl⟩ | ⟨hb, Kp, Kv, n1, m1, n2, m2, rfl⟩
  · exact ⟨0, 0, 0, false, false, false, .iface 44 (.pointer (some a)), rfl, .inl ⟨hb, rfl, rfl, rfl, rfl, rfl, rfl, a, rfl⟩⟩
  · exact ⟨_, _, _, _, _, _, .nilIface, rfl, .inr ⟨hb, rfl, Kp, Kv, n1, m1, n2, m2, rfl, rfl, rfl, rfl, rfl, rfl, n1.length_le_of_subset fun x hx => ((m1 x).1 hx).1⟩⟩

theorem tbad {M R Pr Vo : List ByteArray} {d p f : Int} {q s c : Bool} {E : Value} (h : TVal M R Pr Vo d p f q s c E) (hb : Bad M Pr Vo) : d = 0 ∧ p = 0 ∧ f = 0 ∧ q = false ∧ s = false ∧ c = false ∧ ∃ a : Addr, E = .iface 44 (.pointer (some a)) := by
  rcases h with ⟨_, h⟩ | ⟨h, _⟩
  · exact h
  · exact absurd hb h
theorem below_drewN {B : Nat} {a w : World} (h : Below B a w) (n : Nat) : Below B a (w.drewN n) := ⟨h.os, h.tape, h.output, h.size, h.block⟩
theorem tok {M R Pr Vo : List ByteArray} {d p f : Int} {q s c : Bool} {E : Value} (h : TVal M R Pr Vo d p f q s c E) (hb : ¬ Bad M Pr Vo) : E = .nilIface ∧ ∃ Kp Kv : List ByteArray, Kp.Nodup ∧ (∀ x, x ∈ Kp ↔ x ∈ Pr ∧ x ∉ R) ∧ Kv.Nodup ∧ (∀ x, x ∈ Kv ↔ x ∈ Vo ∧ x ∉ R) ∧
    d = (M.length : Int) - R.length ∧ p = Kp.length ∧ f = Kv.length ∧ q = decide (d < 2 * p) ∧ s = decide (p < 3) ∧ c = (!decide (p < 3) && decide (d < 2 * f)) ∧ Kp.length ≤ Pr.length := by
  rcases h with ⟨h, _⟩ | ⟨_, h⟩
  · exact absurd h hb
  · exact h
theorem bad_iff {M Q U G : List ByteArray} {x : ByteArray} (hG : ∀ y, y ∈ G ↔ y = x ∨ y ∈ Q) (hM : x ∈ M) (hU : ¬ (x ∈ U ∧ x ∉ Q)) : Bad M G U ↔ Bad M Q U := by
  constructor
  · rintro (⟨y, hy, hn⟩ | ⟨y, hy, hn⟩)
    · rcases (hG y).1 hy with rfl | h
      · exact absurd hM hn
      · exact .inl ⟨y, h, hn⟩
    · exact .inr ⟨y, hy, fun h => hn ((hG y).2 (.inr h))⟩
  · rintro (⟨y, hy, hn⟩ | ⟨y, hy, hn⟩)
    · exact .inl ⟨y, (hG y).2 (.inr hy), hn⟩
    · by_cases e : y = x
      · subst e; exact absurd ⟨hy, hn⟩ hU
      · exact .inr ⟨y, hy, fun h => by rcases (hG y).1 h with h | h; exact e h; exact hn h⟩
theorem len_eq {A B : List ByteArray} (ha : A.Nodup) (hb : B.Nodup) (h : ∀ y, y ∈ A ↔ y ∈ B) : A.length = B.length := ((List.perm_ext_iff_of_nodup ha hb).2 h).length_eq
/-- x is related or already present: both calls answer the same. -/
theorem law_same {M R Q U G : List ByteArray} {x : ByteArray} {d1 p1 f1 d2 p2 f2 : Int} {q1 s1 c1 q2 s2 c2 : Bool} {E1 E2 : Value} (h1 : TVal M R Q U d1 p1 f1 q1 s1 c1 E1) (h2 : TVal M R G U d2 p2 f2 q2 s2 c2 E2) (b1 : ¬ Bad M Q U) (b2 : ¬ Bad M G U)
    (hG : ∀ y, y ∈ G ↔ y = x ∨ y ∈ Q) (hx : x ∈ R ∨ x ∈ Q) : d2 = d1 ∧ p2 = p1 ∧ f2 = f1 ∧ q2 = q1 ∧ s2 = s1 ∧ c2 = c1 ∧ E1 = .nilIface ∧ E2 = .nilIface := by
  obtain ⟨e1, K1, V1, n1, m1, n2, m2, rfl, rfl, rfl, rfl, rfl, rfl, _⟩ := tok h1 b1
  obtain ⟨e2, K2, V2, n3, m3, n4, m4, rfl, rfl, rfl, rfl, rfl, rfl, _⟩ := tok h2 b2
  have hk : K2.length = K1.length := len_eq n3 n1 fun y => by
    rw [m3, m1, hG]
    constructor
    · rintro ⟨rfl | h, h'⟩
      · exact ⟨hx.resolve_left h', h'⟩
      · exact ⟨h, h'⟩
    · exact fun ⟨h, h'⟩ => ⟨.inr h, h'⟩
  have hv : V2.length = V1.length := len_eq n4 n2 fun y => by rw [m4, m2]
  rw [hk, hv]
  exact ⟨rfl, rfl, rfl, rfl, rfl, rfl, e1, e2⟩
/-- x is a new one, not related: one more is present. -/
theorem law_more {M R Q U G : List ByteArray} {x : ByteArray} {d1 p1 f1 d2 p2 f2 : Int} {q1 s1 c1 q2 s2 c2 : Bool} {E1 E2 : Value} (h1 : TVal M R Q U d1 p1 f1 q1 s1 c1 E1) (h2 : TVal M R G U d2 p2 f2 q2 s2 c2 E2) (b1 : ¬ Bad M Q U) (b2 : ¬ Bad M G U)
    (hG : ∀ y, y ∈ G ↔ y = x ∨ y ∈ Q) (hR : x ∉ R) (hQ : x ∉ Q) : d2 = d1 ∧ p2 = p1 + 1 ∧ f2 = f1 ∧ E1 = .nilIface ∧ E2 = .nilIface ∧ (q1 = true → q2 = true) ∧ (s2 = true → s1 = true) ∧ (c1 = true → c2 = true) ∧ 0 ≤ p1 ∧ p1 ≤ Q.length := by
  obtain ⟨e1, K1, V1, n1, m1, n2, m2, rfl, rfl, rfl, rfl, rfl, rfl, l1⟩ := tok h1 b1
  obtain ⟨e2, K2, V2, n3, m3, n4, m4, rfl, rfl, rfl, rfl, rfl, rfl, _⟩ := tok h2 b2
  have hk : K2.length = (x :: K1).length := len_eq n3 (List.nodup_cons.2 ⟨fun h => hQ ((m1 x).1 h).1, n1⟩) fun y => by
    rw [m3, List.mem_cons, m1, hG]
    constructor
    · rintro ⟨rfl | h, h'⟩
      · exact .inl rfl
      · exact .inr ⟨h, h'⟩
    · rintro (rfl | ⟨h, h'⟩)
      · exact ⟨.inl rfl, hR⟩
      · exact ⟨.inr h, h'⟩
  have hv : V2.length = V1.length := len_eq n4 n2 fun y => by rw [m4, m2]
  rw [List.length_cons] at hk
  rw [hk, hv]
  refine ⟨rfl, by omega, rfl, e1, e2, ?_, ?_, ?_, by omega, by omega⟩
  · simp only [decide_eq_true_eq]; omega
  · simp only [decide_eq_true_eq]; omega
  · simp only [Bool.and_eq_true, Bool.not_eq_true', decide_eq_false_iff_not, decide_eq_true_eq]; omega

set_option maxRecDepth 100000 in
set_option maxHeartbeats 4000000 in
theorem oneMore (ma : Option Addr) (M : List ByteArray) (mc : Nat) (ra : Option Addr) (R : List ByteArray) (rc : Nat) (pa : Option Addr) (Q : List ByteArray) (pc : Nat) (va : Option Addr) (U : List ByteArray) (vc : Nat) (x : ByteArray) (k : Int) (w : World)
    (inp : Inp w ma M ra R pa Q va U) (bx : x.size ≤ maxLen) :
    Calls Tryf.prog 4 #[.slice ma M.length mc, .slice ra R.length rc, .slice pa Q.length pc, .slice va U.length vc, .string x, .int .i64 k] w (Ret1 w (.bool true)) := by
  obtain ⟨i0, hi, hz0, hz1, hz2⟩ := info_parts info9
  go_enter Tryf.func4, Tryf.ntmps4
  go_wp2_with fail
  refine (zzBytes10 ma M mc ra R rc pa Q pc va U vc x k _ inp.m inp.r inp.q inp.u inp.bm inp.br inp.bq inp.bu bx).mono ?_
  rintro e w1 ⟨b, rfl, b1, hsm⟩
  cases b
  · go_wp2
    go_ret
    exact ⟨rfl, b1⟩
  obtain ⟨SM, SR, SQ, SU, hx⟩ := hsm rfl
  have hx' : x.size ≤ 1048576 := hx
  have dx : decide ((1048576 : Int) < (x.size : Int)) = false := decide_eq_false (by omega)
  have IN := inp.below b1
  clear hsm bx
  have B1 := hide b1
  clear b1
  go_wp2_with fail
  refine (addBytes (16 + (x.size : Int)) ma M mc _ (by omega) (by omega) IN.m SM).mono ?_
  rintro e w' ⟨n1, rfl, hw, l1, u1⟩
  subst hw
  go_wp2_with fail
  refine (addBytes n1 ra R rc _ l1 u1 IN.r SR).mono ?_
  rintro e w' ⟨n2, rfl, hw, l2, u2⟩
  subst hw
  go_wp2_with fail
  refine (addBytes n2 pa Q pc _ l2 u2 IN.q SQ).mono ?_
  rintro e w' ⟨n3, rfl, hw, l3, u3⟩
  subst hw
  go_wp2_with fail
  refine (addBytes n3 va U vc _ l3 u3 IN.u SU).mono ?_
  rintro e w' ⟨n4, rfl, hw, l4, u4⟩
  subst hw
  clear l1 u1 l2 u2 l3 u3
  by_cases h5 : 1048576 < n4
  · go_wp2
    go_ret
    exact ⟨rfl, B1.out⟩
  by_cases c1 : 4096 < M.length
  · go_wp2
    go_ret
    exact ⟨rfl, B1.out⟩
  by_cases c2 : 4096 < R.length
  · go_wp2
    go_ret
    exact ⟨rfl, B1.out⟩
  by_cases c3 : 4096 < Q.length
  · go_wp2
    go_ret
    exact ⟨rfl, B1.out⟩
  by_cases c4 : 4096 < U.length
  · go_wp2
    go_ret
    exact ⟨rfl, B1.out⟩
  by_cases k0 : k < 0
  · go_wp2
    go_ret
    exact ⟨rfl, B1.out⟩
  by_cases k1 : (Q.length : Int) < k
  · go_wp2
    go_ret
    exact ⟨rfl, B1.out⟩
  obtain ⟨K, rfl⟩ := Int.eq_ofNat_of_zero_le (show 0 ≤ k by omega)
  have hK : K ≤ Q.length := by omega
  have d0 : decide (1048576 < n4) = false := decide_eq_false h5
  have d1 : decide ((4096 : Int) < (M.length : Int)) = false := decide_eq_false (by omega)
  have d2 : decide ((4096 : Int) < (R.length : Int)) = false := decide_eq_false (by omega)
  have d3 : decide ((4096 : Int) < (Q.length : Int)) = false := decide_eq_false (by omega)
  have d4 : decide ((4096 : Int) < (U.length : Int)) = false := decide_eq_false (by omega)
  have dk : decide ((K : Int) < 0) = false := decide_eq_false (by omega)
  have lm : M.length ≤ 4096 := by omega
  have lr : R.length ≤ 4096 := by omega
  have lq : Q.length ≤ 4096 := by omega
  have lu : U.length ≤ 4096 := by omega
  clear l4 u4 c1 c2 c3 c4 k0 h5
  obtain ⟨W, rfl⟩ : ∃ W : World, W = w' := ⟨_, rfl⟩
  go_wp2_with (at_make; refine wpList_make_own _ rfl _ _ 22 rfl W.heap.size 9 i0 (.string ⟨#[]⟩) 1 Tryf.underlying22 hi hz0 hz1 _ _ _ (Q.length + 1) rfl rfl (by omega) (by rw [hz2]; omega) (by unfold maxLen; omega) (Nat.le_refl _) ?_; intro w2 hown hgrow)
  have BW : Below W.heap.size W w2 := (Below.refl _ _).grown hgrow (Nat.le_refl _) (fun k e => by cases e)
  clear hgrow d0 d1 d2 d3 d4 dk dx k1
  go_loopw [14, 15] (fun s i wr => ∃ j : Nat, j ≤ K ∧ i = .int .i64 j ∧ s = .slice (some ⟨W.heap.size, 0, none⟩) j (Q.length + 1) ∧ wr.ownsRow W.heap.size 9 1 (.slice (some ⟨W.heap.size, 0, none⟩) j (Q.length + 1)) j (strs (Q.take j)) ∧ Below W.heap.size W wr ∧ W.heap.size < wr.heap.size) (fun _ i _ => K - (intOf i).toNat)
  case atStart => exact ⟨0, Nat.zero_le _, rfl, rfl, hown, BW, ownsRow_lt hown⟩
  case round =>
    clear hown BW
    obtain ⟨j, hj, rfl, rfl, hown, bw, lw⟩ := hrel
    have HB := hide bw
    clear bw
    by_cases hlt : j < K
    · have hidx := fun w => run_index_at (P := Tryf.prog) (c := pc) Tryf.underlying22 size9 IN.q.pl (show j < Q.length by omega) w
      have hc := cell_below HB.out (IN.q.c0 j (by omega)) (IN.q.lt j (by omega))
      go_wp2_with (at_builtin; refine wpList_append_fits _ rfl (.tmp 89) (.tmp 94) 22 rfl W.heap.size 9 i0 1 Tryf.underlying22 hi hz1 W.heap.size j (Q.length + 1) _ rfl (hown.alloc _) ⟨wr.heap.size, 0, none⟩ 1 1 [.string (nth Q j)] rfl rfl (one_new _ _ _) (by intro u hu; simp at hu; subst hu; rfl) (by omega) ?_; intro w3 hown3 hgrow3)
      go_roundw
      case rel => exact ⟨j + 1, by omega, by go_num, rfl, by rw [strs_take (by omega)]; exact hown3, grown_below HB.out lw hgrow3, grown_lt lw hgrow3⟩
      case measure => simp [intOf]; omega
    · obtain rfl : j = K := by omega
      clear hlt hj
      go_wp2_with (at_builtin; refine wpList_append_fits _ rfl (.tmp 96) (.tmp 98) 22 rfl W.heap.size 9 i0 1 Tryf.underlying22 hi hz1 W.heap.size j (Q.length + 1) _ rfl (hown.alloc _) ⟨wr.heap.size, 0, none⟩ 1 1 [.string x] rfl rfl (one_new _ _ _) (by intro u hu; simp at hu; subst hu; rfl) (by omega) ?_; intro w3 hown3 hgrow3)
      have bw3 := grown_below HB.out lw hgrow3
      have lw3 := grown_lt lw hgrow3
      clear hown hgrow3 HB lw
      rw [← ins_start] at hown3
      go_loopw [14, 16] (fun s i wr => ∃ i' : Nat, j ≤ i' ∧ i' ≤ Q.length ∧ i = .int .i64 i' ∧ s = .slice (some ⟨W.heap.size, 0, none⟩) (i' + 1) (Q.length + 1) ∧ wr.ownsRow W.heap.size 9 1 (.slice (some ⟨W.heap.size, 0, none⟩) (i' + 1) (Q.length + 1)) (i' + 1) (strs (insAt Q x j i')) ∧ Below W.heap.size W wr ∧ W.heap.size < wr.heap.size) (fun _ i _ => Q.length - (intOf i).toNat)
      case atStart => exact ⟨j, Nat.le_refl _, hK, rfl, rfl, hown3, bw3, lw3⟩
      case round =>
        clear hown3 bw3 lw3
        obtain ⟨i, hji, hi', rfl, rfl, hown, bw, lw⟩ := hrel
        have HB := hide bw
        clear bw
        by_cases hlt : i < Q.length
        · have hidx := fun w => run_index_at (P := Tryf.prog) (c := pc) Tryf.underlying22 size9 IN.q.pl hlt w
          have hc := cell_below HB.out (IN.q.c0 i hlt) (IN.q.lt i hlt)
          go_wp2_with (at_builtin; refine wpList_append_fits _ rfl (.tmp 107) (.tmp 112) 22 rfl W.heap.size 9 i0 1 Tryf.underlying22 hi hz1 W.heap.size (i + 1) (Q.length + 1) _ rfl (hown.alloc _) ⟨wr.heap.size, 0, none⟩ 1 1 [.string (nth Q i)] rfl rfl (one_new _ _ _) (by intro u hu; simp at hu; subst hu; rfl) (by omega) ?_; intro w4 hown4 hgrow4)
          go_roundw
          case rel => exact ⟨i + 1, by omega, by omega, by go_num, rfl, by rw [ins_step hji hlt]; exact hown4, grown_below HB.out lw hgrow4, grown_lt lw hgrow4⟩
          case measure => simp [intOf]; omega
        · obtain rfl : Q.length = i := by omega
          have hG := strsIn_of_owns (ins_len hK).symm hown
          have GL := ins_len (x := x) hK
          have GM : ∀ y, y ∈ insAt Q x j Q.length ↔ y = x ∨ y ∈ Q := ins_mem
          obtain ⟨Gl, hGl⟩ : ∃ Gl, Gl = insAt Q x j Q.length := ⟨_, rfl⟩
          rw [← hGl] at hG GL GM
          have GM := hide GM
          have SG : SmallL Gl := ⟨by omega, fun y hy => by
            rcases (GM.out y).1 hy with rfl | h
            · exact hx
            · exact SQ.2 y h⟩
          have INr := hide (IN.below HB.out)
          have bw0 := hide (B1.out.trans (HB.out.mono B1.out.size))
          have hb2 := below1 wr (.cells #[.slice ma M.length mc, .slice ra R.length rc] 29)
          have IN5 := INr.out.below hb2
          have G5 := hG.below hb2
          have ht1 := tally wr.heap.size ma M mc ra R rc pa Q pc va U vc (wr.alloc (.cells #[.slice ma M.length mc, .slice ra R.length rc] 29)) (by simp) (by simp) IN5.m IN5.r IN5.q IN5.u (by omega) (by omega) (by omega) (by omega) SQ.2 SU.2
          have GLh := hide GL
          clear hown hlt hi' hji HB hGl hG GL
          go_wp2_with fail
          refine ht1.mono ?_
          rintro e w5 h5
          obtain ⟨d1, p1, f1, q1, s1, c1, E1, rfl, tv1⟩ := tally_val h5
          have T1 := hide tv1
          have b5 := h5.1
          clear ht1 tv1 h5
          have k50 : w5.cell? ⟨wr.heap.size, 0, none⟩ = some (.slice ma M.length mc) := (b5.cell (p := ⟨wr.heap.size, 0, none⟩) (by simp)).trans (World.cell?_alloc_new _ _ _ _)
          have k51 : w5.cell? ⟨wr.heap.size, 1, none⟩ = some (.slice ra R.length rc) := (b5.cell (p := ⟨wr.heap.size, 1, none⟩) (by simp)).trans (World.cell?_alloc_new _ _ _ _)
          have k5l : wr.heap.size < w5.heap.size := by have := b5.size; simp at this; omega
          have b6 := below1 w5 (.cells #[.int .i64 d1, .int .i64 p1, .int .i64 f1, .bool q1, .bool s1, .bool c1] 31)
          have IN6 := (IN5.below b5).below b6
          have G6 := (G5.below b5).below b6
          have k60 := cell_below b6 k50 k5l
          have k61 := cell_below b6 k51 k5l
          have bwr := hide ((hb2.trans (b5.mono hb2.size)).trans (b6.mono (Nat.le_of_lt k5l)))
          have ht2 := tally wr.heap.size ma M mc ra R rc (some ⟨W.heap.size, 0, none⟩) Gl (Q.length + 1) va U vc _ k60 k61 IN6.m IN6.r G6 IN6.u (by omega) (by omega) (by rw [GLh.out]; omega) (by omega) SG.2 SU.2
          rw [GLh.out] at ht2
          clear k50 k51 k60 k61 b5 hb2 IN5 G5 G6 b6
          go_wp2_with fail
          refine ht2.mono ?_
          rintro e w7 h7
          obtain ⟨d2, p2, f2, q2, s2, c2, E2, rfl, tv2⟩ := tally_val h7
          have T2 := hide tv2
          have b7 := h7.1
          have x0 : w7.cell? ⟨w5.heap.size, 0, none⟩ = some (.int .i64 d1) := (b7.cell (p := ⟨w5.heap.size, 0, none⟩) (by simp)).trans (World.cell?_alloc_new _ _ _ _)
          have x1 : w7.cell? ⟨w5.heap.size, 1, none⟩ = some (.int .i64 p1) := (b7.cell (p := ⟨w5.heap.size, 1, none⟩) (by simp)).trans (World.cell?_alloc_new _ _ _ _)
          have x2 : w7.cell? ⟨w5.heap.size, 2, none⟩ = some (.int .i64 f1) := (b7.cell (p := ⟨w5.heap.size, 2, none⟩) (by simp)).trans (World.cell?_alloc_new _ _ _ _)
          have x3 : w7.cell? ⟨w5.heap.size, 3, none⟩ = some (.bool q1) := (b7.cell (p := ⟨w5.heap.size, 3, none⟩) (by simp)).trans (World.cell?_alloc_new _ _ _ _)
          have x4 : w7.cell? ⟨w5.heap.size, 4, none⟩ = some (.bool s1) := (b7.cell (p := ⟨w5.heap.size, 4, none⟩) (by simp)).trans (World.cell?_alloc_new _ _ _ _)
          have x5 : w7.cell? ⟨w5.heap.size, 5, none⟩ = some (.bool c1) := (b7.cell (p := ⟨w5.heap.size, 5, none⟩) (by simp)).trans (World.cell?_alloc_new _ _ _ _)
          have xl : w5.heap.size < w7.heap.size := by have := b7.size; simp at this; omega
          have bz := below2 w7 (.cells #[.int .i64 d2, .int .i64 p2, .int .i64 f2, .bool q2, .bool s2, .bool c2] 31) (.cells #[.int .i64 0, .int .i64 0, .int .i64 0, .bool false, .bool false, .bool false] 31)
          have IN8 := (IN6.below b7).below bz
          have FIN : Hid (Below w.heap.size w ((w7.alloc (.cells #[.int .i64 d2, .int .i64 p2, .int .i64 f2, .bool q2, .bool s2, .bool c2] 31)).alloc (.cells #[.int .i64 0, .int .i64 0, .int .i64 0, .bool false, .bool false, .bool false] 31))) := by
            have z0 := bw0.out.size
            have z1 := bwr.out.size
            exact ((bw0.out.trans (bwr.out.mono z0)).trans (b7.mono (by omega))).trans (bz.mono (by have := b7.size; omega))
          clear ht2 tv2 h7 b7 bz bwr IN6 bw0 k5l
          cases gM : has M x
          · obtain ⟨rfl, rfl, rfl, rfl, rfl, rfl, a2, rfl⟩ := (tbad T2.out (.inl ⟨x, (GM.out x).2 (.inl rfl), has_not.1 gM⟩))
            go_wp2_with (first
              | (go_at_call_of 8 (Value.slice ma M.length mc); refine (zzHas ma M mc x _ IN8.m (by omega)).mono ?_; rintro e w' ⟨rfl, hw⟩; subst hw)
              | (go_at_call_of 8 (Value.slice pa Q.length pc); refine (zzHas pa Q pc x _ IN8.q (by omega)).mono ?_; rintro e w' ⟨rfl, hw⟩; subst hw)
              | (go_at_call_of 8 (Value.slice va U.length vc); refine (zzHas va U vc x _ IN8.u (by omega)).mono ?_; rintro e w' ⟨rfl, hw⟩; subst hw)
              | (go_at_call_of 8 (Value.slice ra R.length rc); refine (zzHas ra R rc x _ IN8.r (by omega)).mono ?_; rintro e w' ⟨rfl, hw⟩; subst hw))
            go_ret
            exact ⟨rfl, FIN.out⟩
          by_cases hB : has U x = true ∧ has Q x = false
          · obtain ⟨gU, gQ⟩ := hB
            obtain ⟨rfl, rfl, rfl, rfl, rfl, rfl, a1, rfl⟩ := (tbad T1.out (.inr ⟨x, has_iff.1 gU, has_not.1 gQ⟩))
            go_wp2_with (first
              | (go_at_call_of 8 (Value.slice ma M.length mc); refine (zzHas ma M mc x _ IN8.m (by omega)).mono ?_; rintro e w' ⟨rfl, hw⟩; subst hw)
              | (go_at_call_of 8 (Value.slice pa Q.length pc); refine (zzHas pa Q pc x _ IN8.q (by omega)).mono ?_; rintro e w' ⟨rfl, hw⟩; subst hw)
              | (go_at_call_of 8 (Value.slice va U.length vc); refine (zzHas va U vc x _ IN8.u (by omega)).mono ?_; rintro e w' ⟨rfl, hw⟩; subst hw)
              | (go_at_call_of 8 (Value.slice ra R.length rc); refine (zzHas ra R rc x _ IN8.r (by omega)).mono ?_; rintro e w' ⟨rfl, hw⟩; subst hw))
            go_ret
            exact ⟨rfl, FIN.out⟩
          have hiff := hide (bad_iff GM.out (has_iff.1 gM) (fun ⟨h1, h2⟩ => hB ⟨has_iff.2 h1, has_not.2 h2⟩))
          by_cases hb1 : Bad M Q U
          · obtain ⟨rfl, rfl, rfl, rfl, rfl, rfl, a1, rfl⟩ := tbad T1.out hb1
            obtain ⟨rfl, rfl, rfl, rfl, rfl, rfl, a2, rfl⟩ := tbad T2.out (hiff.out.2 hb1)
            have gUQ : (has U x = false) ∨ (has U x = true ∧ has Q x = true) := by
              cases g : has U x
              · exact .inl rfl
              · cases g' : has Q x
                · exact absurd ⟨g, g'⟩ hB
                · exact .inr ⟨rfl, rfl⟩
            clear hB hb1 hiff T1 T2
            rcases gUQ with gU | ⟨gU, gQ⟩
            · go_wp2_with (first
                | (go_at_call_of 8 (Value.slice ma M.length mc); refine (zzHas ma M mc x _ IN8.m (by omega)).mono ?_; rintro e w' ⟨rfl, hw⟩; subst hw)
                | (go_at_call_of 8 (Value.slice pa Q.length pc); refine (zzHas pa Q pc x _ IN8.q (by omega)).mono ?_; rintro e w' ⟨rfl, hw⟩; subst hw)
                | (go_at_call_of 8 (Value.slice va U.length vc); refine (zzHas va U vc x _ IN8.u (by omega)).mono ?_; rintro e w' ⟨rfl, hw⟩; subst hw)
                | (go_at_call_of 8 (Value.slice ra R.length rc); refine (zzHas ra R rc x _ IN8.r (by omega)).mono ?_; rintro e w' ⟨rfl, hw⟩; subst hw))
              go_quiet (fail)
              go_wp2
              go_ret
              exact ⟨rfl, below_drewN FIN.out _⟩
            · go_wp2_with (first
                | (go_at_call_of 8 (Value.slice ma M.length mc); refine (zzHas ma M mc x _ IN8.m (by omega)).mono ?_; rintro e w' ⟨rfl, hw⟩; subst hw)
                | (go_at_call_of 8 (Value.slice pa Q.length pc); refine (zzHas pa Q pc x _ IN8.q (by omega)).mono ?_; rintro e w' ⟨rfl, hw⟩; subst hw)
                | (go_at_call_of 8 (Value.slice va U.length vc); refine (zzHas va U vc x _ IN8.u (by omega)).mono ?_; rintro e w' ⟨rfl, hw⟩; subst hw)
                | (go_at_call_of 8 (Value.slice ra R.length rc); refine (zzHas ra R rc x _ IN8.r (by omega)).mono ?_; rintro e w' ⟨rfl, hw⟩; subst hw))
              go_quiet (fail)
              go_wp2
              go_ret
              exact ⟨rfl, below_drewN FIN.out _⟩
          have hb2 := fun h => hb1 (hiff.out.1 h)
          have gUQ : (has U x = false) ∨ (has U x = true ∧ has Q x = true) := by
            cases g : has U x
            · exact .inl rfl
            · cases g' : has Q x
              · exact absurd ⟨g, g'⟩ hB
              · exact .inr ⟨rfl, rfl⟩
          by_cases hRQ : has R x = true ∨ has Q x = true
          · obtain ⟨rfl, rfl, rfl, rfl, rfl, rfl, rfl, rfl⟩ := law_same T1.out T2.out hb1 hb2 GM.out (hRQ.imp has_iff.1 has_iff.1)
            clear hB hb1 hb2 hiff T1 T2 hK IN SG GM
            cases gR : has R x
            · have gQ := hRQ.resolve_left (by rw [gR]; exact Bool.false_ne_true)
              clear gUQ hRQ
              cases gU : has U x
              · go_wp2_with (first
                  | (go_at_call_of 8 (Value.slice ma M.length mc); refine (zzHas ma M mc x _ IN8.m (by omega)).mono ?_; rintro e w' ⟨rfl, hw⟩; subst hw)
                  | (go_at_call_of 8 (Value.slice pa Q.length pc); refine (zzHas pa Q pc x _ IN8.q (by omega)).mono ?_; rintro e w' ⟨rfl, hw⟩; subst hw)
                  | (go_at_call_of 8 (Value.slice va U.length vc); refine (zzHas va U vc x _ IN8.u (by omega)).mono ?_; rintro e w' ⟨rfl, hw⟩; subst hw)
                  | (go_at_call_of 8 (Value.slice ra R.length rc); refine (zzHas ra R rc x _ IN8.r (by omega)).mono ?_; rintro e w' ⟨rfl, hw⟩; subst hw))
                go_quiet (fail)
                go_wp2
                go_ret
                exact ⟨rfl, below_drewN FIN.out _⟩
              · go_wp2_with (first
                  | (go_at_call_of 8 (Value.slice ma M.length mc); refine (zzHas ma M mc x _ IN8.m (by omega)).mono ?_; rintro e w' ⟨rfl, hw⟩; subst hw)
                  | (go_at_call_of 8 (Value.slice pa Q.length pc); refine (zzHas pa Q pc x _ IN8.q (by omega)).mono ?_; rintro e w' ⟨rfl, hw⟩; subst hw)
                  | (go_at_call_of 8 (Value.slice va U.length vc); refine (zzHas va U vc x _ IN8.u (by omega)).mono ?_; rintro e w' ⟨rfl, hw⟩; subst hw)
                  | (go_at_call_of 8 (Value.slice ra R.length rc); refine (zzHas ra R rc x _ IN8.r (by omega)).mono ?_; rintro e w' ⟨rfl, hw⟩; subst hw))
                go_quiet (fail)
                go_wp2
                go_ret
                exact ⟨rfl, below_drewN FIN.out _⟩
            · clear hRQ
              rcases gUQ with gU | ⟨gU, gQ⟩
              · go_wp2_with (first
                  | (go_at_call_of 8 (Value.slice ma M.length mc); refine (zzHas ma M mc x _ IN8.m (by omega)).mono ?_; rintro e w' ⟨rfl, hw⟩; subst hw)
                  | (go_at_call_of 8 (Value.slice pa Q.length pc); refine (zzHas pa Q pc x _ IN8.q (by omega)).mono ?_; rintro e w' ⟨rfl, hw⟩; subst hw)
                  | (go_at_call_of 8 (Value.slice va U.length vc); refine (zzHas va U vc x _ IN8.u (by omega)).mono ?_; rintro e w' ⟨rfl, hw⟩; subst hw)
                  | (go_at_call_of 8 (Value.slice ra R.length rc); refine (zzHas ra R rc x _ IN8.r (by omega)).mono ?_; rintro e w' ⟨rfl, hw⟩; subst hw))
                go_quiet (fail)
                go_wp2
                go_ret
                exact ⟨rfl, below_drewN FIN.out _⟩
              · go_wp2_with (first
                  | (go_at_call_of 8 (Value.slice ma M.length mc); refine (zzHas ma M mc x _ IN8.m (by omega)).mono ?_; rintro e w' ⟨rfl, hw⟩; subst hw)
                  | (go_at_call_of 8 (Value.slice pa Q.length pc); refine (zzHas pa Q pc x _ IN8.q (by omega)).mono ?_; rintro e w' ⟨rfl, hw⟩; subst hw)
                  | (go_at_call_of 8 (Value.slice va U.length vc); refine (zzHas va U vc x _ IN8.u (by omega)).mono ?_; rintro e w' ⟨rfl, hw⟩; subst hw)
                  | (go_at_call_of 8 (Value.slice ra R.length rc); refine (zzHas ra R rc x _ IN8.r (by omega)).mono ?_; rintro e w' ⟨rfl, hw⟩; subst hw))
                go_quiet (fail)
                go_wp2
                go_ret
                exact ⟨rfl, below_drewN FIN.out _⟩
          · have gR : has R x = false := by
              cases g : has R x
              · rfl
              · exact absurd (.inl g) hRQ
            have gQ : has Q x = false := by
              cases g : has Q x
              · rfl
              · exact absurd (.inr g) hRQ
            have gU : has U x = false := by
              rcases gUQ with g | ⟨_, g⟩
              · exact g
              · exact absurd (.inr g) hRQ
            obtain ⟨rfl, rfl, rfl, rfl, rfl, mq, ms, mc', lp, up⟩ := law_more T1.out T2.out hb1 hb2 GM.out (has_not.1 gR) (has_not.1 gQ)
            have up' : p1 ≤ 4096 := by omega
            clear hB hb1 hb2 hiff T1 T2 hK IN SG GM gUQ hRQ up
            have pq : q1 = false ∨ (q1 = true ∧ q2 = true) := by
              cases q1
              · exact .inl rfl
              · exact .inr ⟨rfl, mq rfl⟩
            have ps : s2 = false ∨ (s2 = true ∧ s1 = true) := by
              cases s2
              · exact .inl rfl
              · exact .inr ⟨rfl, ms rfl⟩
            have pcc : c1 = false ∨ (c1 = true ∧ c2 = true) := by
              cases c1
              · exact .inl rfl
              · exact .inr ⟨rfl, mc' rfl⟩
            clear mq ms mc'
            go_wp2_with (first
              | (go_at_call_of 8 (Value.slice ma M.length mc); refine (zzHas ma M mc x _ IN8.m (by omega)).mono ?_; rintro e w' ⟨rfl, hw⟩; subst hw)
              | (go_at_call_of 8 (Value.slice pa Q.length pc); refine (zzHas pa Q pc x _ IN8.q (by omega)).mono ?_; rintro e w' ⟨rfl, hw⟩; subst hw)
              | (go_at_call_of 8 (Value.slice va U.length vc); refine (zzHas va U vc x _ IN8.u (by omega)).mono ?_; rintro e w' ⟨rfl, hw⟩; subst hw)
              | (go_at_call_of 8 (Value.slice ra R.length rc); refine (zzHas ra R rc x _ IN8.r (by omega)).mono ?_; rintro e w' ⟨rfl, hw⟩; subst hw))
            go_quiet (fail)
            rcases pq with rfl | ⟨rfl, rfl⟩ <;> rcases ps with rfl | ⟨rfl, rfl⟩ <;> rcases pcc with rfl | ⟨rfl, rfl⟩
            all_goals
              go_wp2
              go_ret
              exact ⟨rfl, below_drewN FIN.out _⟩
end Go.Proofs.Qxb6628425aFmt
