import Derived.Test.Qxb6628425aFmtW2
import Derived.Test.Qxb6628425aFmtW3
import Derived.Deep.RegionHeld3
import Derived.Deep.CutRange
namespace Go.Proofs.Qxb6628425aFmt
open Go.RowKit

/-- The zero Tally. -/
def zeroT : Value := .agg #[.int .i64 0, .int .i64 0, .int .i64 0, .bool false, .bool false, .bool false]
/-- A Tally: so many not related, present, for. -/
def tval (d p f : Int) : Value := .agg #[.int .i64 d, .int .i64 p, .int .i64 f, .bool (decide (d < 2 * p)), .bool (decide (p < 3)), .bool (!decide (p < 3) && decide (d < 2 * f))]

def Bad (M Pr Vo : List ByteArray) : Prop := (∃ x, x ∈ Pr ∧ x ∉ M) ∨ ∃ x, x ∈ Vo ∧ x ∉ Pr
/-- What 'Tally' hands back. -/
def TallyRet (w : World) (M R Pr Vo : List ByteArray) (e : Ending) (w' : World) : Prop :=
  Below w.heap.size w w' ∧ ((Bad M Pr Vo ∧ ∃ a : Addr, e = .returned (.tuple #[zeroT, .iface 44 (.pointer (some a))])) ∨
    (¬ Bad M Pr Vo ∧ ∃ Kp Kv : List ByteArray, Kp.Nodup ∧ (∀ x, x ∈ Kp ↔ x ∈ Pr ∧ x ∉ R) ∧ Kv.Nodup ∧ (∀ x, x ∈ Kv ↔ x ∈ Vo ∧ x ∉ R) ∧ e = .returned (.tuple #[tval ((M.length : Int) - R.length) Kp.length Kv.length, .nilIface])))

/-- A block laid, another, a callee that turns nothing old: what the first holds. -/
theorem keepZ {w w1 : World} {c : Array Value} {t : TypeId} {o : Obj} (hb : Below ((w.alloc (.cells c t)).alloc o).heap.size ((w.alloc (.cells c t)).alloc o) w1) (j : Nat) :
    w1.cell? ⟨w.heap.size, j, none⟩ = c[j]? ∧ w1.frozen? ⟨w.heap.size, j, none⟩ = false := by
  have hl : w.heap.size < ((w.alloc (.cells c t)).alloc o).heap.size := by simp; omega
  rw [hb.cell (p := ⟨w.heap.size, j, none⟩) hl, hb.frozen (p := ⟨w.heap.size, j, none⟩) hl, World.cell?_alloc_past _ _ _ (by simp), World.frozen?_alloc_past _ _ _ (by simp)]
  exact ⟨World.cell?_alloc_new _ _ _ _, World.frozen?_alloc_new _ _ _ _⟩

theorem badBelow {w w1 : World} {o1 o2 : Obj} (hb : Below ((w.alloc o1).alloc o2).heap.size ((w.alloc o1).alloc o2) w1) (u0 u1 u2 u3 u4 u5 : Value) :
    Below w.heap.size w ((((((w1.setCell ⟨w.heap.size, 0, none⟩ u0).setCell ⟨w.heap.size, 1, none⟩ u1).setCell ⟨w.heap.size, 2, none⟩ u2).setCell ⟨w.heap.size, 3, none⟩ u3).setCell ⟨w.heap.size, 4, none⟩ u4).setCell ⟨w.heap.size, 5, none⟩ u5) := by
  have h1 : Below w.heap.size w w1 := (below2 w o1 o2).trans (hb.mono (by simp; omega))
  exact below_set (below_set (below_set (below_set (below_set (below_set h1 _ _ (Nat.le_refl _) _) _ _ (Nat.le_refl _) _) _ _ (Nat.le_refl _) _) _ _ (Nat.le_refl _) _) _ _ (Nat.le_refl _) _) _ _ (Nat.le_refl _) _

/-- A zero Tally's own block. -/
structure Z6 (w : World) (b : Nat) : Prop where
  c0 : w.cell? ⟨b, 0, none⟩ = some (.int .i64 0)
  c1 : w.cell? ⟨b, 1, none⟩ = some (.int .i64 0)
  c2 : w.cell? ⟨b, 2, none⟩ = some (.int .i64 0)
  c3 : w.cell? ⟨b, 3, none⟩ = some (.bool false)
  c4 : w.cell? ⟨b, 4, none⟩ = some (.bool false)
  c5 : w.cell? ⟨b, 5, none⟩ = some (.bool false)
  fr : ∀ j, w.frozen? ⟨b, j, none⟩ = false
theorem Z6.lt {w : World} {b : Nat} (h : Z6 w b) : b < w.heap.size := lt_of_cell h.c0
theorem Z6.below {w w' : World} {b : Nat} (h : Z6 w b) (hb : Below w.heap.size w w') : Z6 w' b :=
  ⟨cell_below hb h.c0 h.lt, cell_below hb h.c1 h.lt, cell_below hb h.c2 h.lt, cell_below hb h.c3 h.lt, cell_below hb h.c4 h.lt, cell_below hb h.c5 h.lt, fun j => (hb.frozen (p := ⟨b, j, none⟩) h.lt).trans (h.fr j)⟩
theorem Z6.drew {w : World} {b : Nat} (h : Z6 w b) : Z6 w.drew b := ⟨h.c0, h.c1, h.c2, h.c3, h.c4, h.c5, h.fr⟩
theorem Z6.alloc {w : World} {b : Nat} (h : Z6 w b) (o : Obj) : Z6 (w.alloc o) b := h.below (below1 w o)
theorem Z6.new (w : World) : Z6 (w.alloc (.cells #[.int .i64 0, .int .i64 0, .int .i64 0, .bool false, .bool false, .bool false] 31)) w.heap.size := ⟨by simp, by simp, by simp, by simp, by simp, by simp, fun j => by simp⟩
theorem Z6.new1 (w : World) : Z6 (w.alloc (.cells #[.int .i64 0, .int .i64 0, .int .i64 0, .bool false, .bool false, .bool false] 31)).drew w.heap.size := (Z6.new w).drew
theorem Z6.old2 (w : World) (o : Obj) : Z6 ((w.alloc (.cells #[.int .i64 0, .int .i64 0, .int .i64 0, .bool false, .bool false, .bool false] 31)).alloc o).drew w.heap.size := ((Z6.new w).alloc o).drew
theorem Z6.new2 (w : World) (o : Obj) : Z6 ((w.alloc o).alloc (.cells #[.int .i64 0, .int .i64 0, .int .i64 0, .bool false, .bool false, .bool false] 31)).drew (w.heap.size + 1) := by
  have := (Z6.new (w.alloc o)).drew
  rwa [World.size_alloc] at this

/-- 't' in its own block, the result's block still zero. -/
structure TAt (w wc : World) (tb : Nat) (d p f : Int) (q ts car : Bool) : Prop where
  bel : Below w.heap.size w wc
  rz : Z6 wc w.heap.size
  up : w.heap.size < tb
  c0 : wc.cell? ⟨tb, 0, none⟩ = some (.int .i64 d)
  c1 : wc.cell? ⟨tb, 1, none⟩ = some (.int .i64 p)
  c2 : wc.cell? ⟨tb, 2, none⟩ = some (.int .i64 f)
  c3 : wc.cell? ⟨tb, 3, none⟩ = some (.bool q)
  c4 : wc.cell? ⟨tb, 4, none⟩ = some (.bool ts)
  c5 : wc.cell? ⟨tb, 5, none⟩ = some (.bool car)
  fr : ∀ j, wc.frozen? ⟨tb, j, none⟩ = false
theorem cell_set_same {w : World} {a : Addr} {u : Value} (v : Value) (h : w.cell? a = some u) : (w.setCell a v).cell? a = some v := World.cell?_setCell_same w a v h
theorem cell_set_ne {w : World} {a b : Addr} (v : Value) (h : a ≠ b) : (w.setCell a v).cell? b = w.cell? b := World.cell?_setCell_other w a b v h
theorem of_ne {q r b c : Nat} (h : b ≠ c) : (⟨q, b, none⟩ : Addr) ≠ ⟨r, c, none⟩ := fun e => by injection e; omega
theorem bk_ne {q r b c : Nat} (h : q ≠ r) : (⟨q, b, none⟩ : Addr) ≠ ⟨r, c, none⟩ := fun e => by injection e; omega
theorem Z6.set {w : World} {b : Nat} (h : Z6 w b) (q o : Nat) (hq : q ≠ b) (v : Value) : Z6 (w.setCell ⟨q, o, none⟩ v) b :=
  ⟨(cell_set_ne v (bk_ne hq)).trans h.c0, (cell_set_ne v (bk_ne hq)).trans h.c1, (cell_set_ne v (bk_ne hq)).trans h.c2, (cell_set_ne v (bk_ne hq)).trans h.c3, (cell_set_ne v (bk_ne hq)).trans h.c4, (cell_set_ne v (bk_ne hq)).trans h.c5, fun j => by rw [World.frozen?_setCell]; exact h.fr j⟩
theorem TAt.ofSet {w w2 : World} {tb : Nat} (hb : Below w.heap.size w w2) (rz : Z6 w2 w.heap.size) (t : Z6 w2 tb) (up : w.heap.size < tb) (d p f : Int) :
    TAt w ((((((w2.setCell ⟨tb, 0, none⟩ (.int .i64 d)).setCell ⟨tb, 1, none⟩ (.int .i64 p)).setCell ⟨tb, 2, none⟩ (.int .i64 f)).setCell ⟨tb, 3, none⟩ (.bool false)).setCell ⟨tb, 4, none⟩ (.bool false)).setCell ⟨tb, 5, none⟩ (.bool false)) tb d p f false false false := by
  have ne : tb ≠ w.heap.size := by omega
  refine ⟨below_set (below_set (below_set (below_set (below_set (below_set hb _ _ (by omega) _) _ _ (by omega) _) _ _ (by omega) _) _ _ (by omega) _) _ _ (by omega) _) _ _ (by omega) _,
    (((((rz.set _ _ ne _).set _ _ ne _).set _ _ ne _).set _ _ ne _).set _ _ ne _).set _ _ ne _, up, ?_, ?_, ?_, ?_, ?_, ?_, fun j => by simp only [World.frozen?_setCell]; exact t.fr j⟩
  · rw [cell_set_ne _ (of_ne (by omega)), cell_set_ne _ (of_ne (by omega)), cell_set_ne _ (of_ne (by omega)), cell_set_ne _ (of_ne (by omega)), cell_set_ne _ (of_ne (by omega))]; exact cell_set_same _ t.c0
  · rw [cell_set_ne _ (of_ne (by omega)), cell_set_ne _ (of_ne (by omega)), cell_set_ne _ (of_ne (by omega)), cell_set_ne _ (of_ne (by omega))]; exact cell_set_same _ ((cell_set_ne _ (of_ne (by omega))).trans t.c1)
  · rw [cell_set_ne _ (of_ne (by omega)), cell_set_ne _ (of_ne (by omega)), cell_set_ne _ (of_ne (by omega))]; exact cell_set_same _ ((cell_set_ne _ (of_ne (by omega))).trans ((cell_set_ne _ (of_ne (by omega))).trans t.c2))
  · rw [cell_set_ne _ (of_ne (by omega)), cell_set_ne _ (of_ne (by omega))]; exact cell_set_same _ ((cell_set_ne _ (of_ne (by omega))).trans ((cell_set_ne _ (of_ne (by omega))).trans ((cell_set_ne _ (of_ne (by omega))).trans t.c3)))
  · rw [cell_set_ne _ (of_ne (by omega))]; exact cell_set_same _ ((cell_set_ne _ (of_ne (by omega))).trans ((cell_set_ne _ (of_ne (by omega))).trans ((cell_set_ne _ (of_ne (by omega))).trans ((cell_set_ne _ (of_ne (by omega))).trans t.c4))))
  · exact cell_set_same _ ((cell_set_ne _ (of_ne (by omega))).trans ((cell_set_ne _ (of_ne (by omega))).trans ((cell_set_ne _ (of_ne (by omega))).trans ((cell_set_ne _ (of_ne (by omega))).trans ((cell_set_ne _ (of_ne (by omega))).trans t.c5)))))
theorem TAt.ofNew {w w2 : World} (hb : Below w.heap.size w w2) (rz : Z6 w2 w.heap.size) (d p f : Int) :
    TAt w (w2.alloc (.cells #[.int .i64 d, .int .i64 p, .int .i64 f, .bool false, .bool false, .bool false] 31)) w2.heap.size d p f false false false :=
  ⟨hb.alloc hb.size _, rz.alloc _, rz.lt, by simp, by simp, by simp, by simp, by simp, by simp, fun j => by simp⟩

/-- 'nonRelated', in a later world. -/
theorem nonRelated' (bb : Nat) (ra : Option Addr) (R : List ByteArray) (rc : Nat) (ia : Option Addr) (I : List ByteArray) (ic : Nat) (w W : World) (hb1 : w.cell? ⟨bb, 1, none⟩ = some (.slice ra R.length rc)) (hr : StrsIn w ra R) (hi : StrsIn w ia I) (br : R.length ≤ 8192) (bi : I.length ≤ 8192)
    (bs : ∀ x ∈ I, x.size ≤ 1048576) (hb : Below w.heap.size w W) :
    Calls Tryf.prog 13 #[.pointer (some ⟨bb, 0, none⟩), .slice ia I.length ic] W fun e w' => ∃ K : List ByteArray, K.Nodup ∧ (∀ x, x ∈ K ↔ x ∈ I ∧ x ∉ R) ∧ e = .returned (.int .i64 K.length) ∧ Below W.heap.size W w' ∧ Below w.heap.size w w' ∧ K.length ≤ I.length := by
  refine (nonRelated bb ra R rc ia I ic W (cell_below hb hb1 (lt_of_cell hb1)) (hr.below hb) (hi.below hb) (by omega) (by omega) bs).mono ?_
  rintro e w' ⟨K, h1, h2, h3, h4⟩
  exact ⟨K, h1, h2, h3, h4, hb.trans (h4.mono hb.size), h1.length_le_of_subset fun x hx => ((h2 x).1 hx).1⟩

set_option maxRecDepth 100000 in
set_option maxHeartbeats 4000000 in
theorem tally (bb : Nat) (ma : Option Addr) (M : List ByteArray) (mc : Nat) (ra : Option Addr) (R : List ByteArray) (rc : Nat) (pa : Option Addr) (Pr : List ByteArray) (pc : Nat) (va : Option Addr) (Vo : List ByteArray) (vc : Nat) (w : World)
    (hb0 : w.cell? ⟨bb, 0, none⟩ = some (.slice ma M.length mc)) (hb1 : w.cell? ⟨bb, 1, none⟩ = some (.slice ra R.length rc)) (hm : StrsIn w ma M) (hr : StrsIn w ra R) (hp : StrsIn w pa Pr) (hv : StrsIn w va Vo)
    (bm : M.length ≤ 8192) (br : R.length ≤ 8192) (bp : Pr.length ≤ 8192) (bv : Vo.length ≤ 8192) (sp : ∀ x ∈ Pr, x.size ≤ 1048576) (sv : ∀ x ∈ Vo, x.size ≤ 1048576) :
    Calls Tryf.prog 9 #[.pointer (some ⟨bb, 0, none⟩), .slice pa Pr.length pc, .slice va Vo.length vc] w (TallyRet w M R Pr Vo) := by
  have HM := hide hm
  have HR := hide hr
  have HP := hide hp
  have HV := hide hv
  have SP := hide sp
  have SV := hide sv
  have hbl := lt_of_cell hb0
  clear hm hr hp hv sp sv
  go_enter Tryf.func9, Tryf.ntmps9
  go_wp2
  go_loop [9, 15] (fun _ i => ∃ k : Nat, k ≤ Pr.length ∧ i = .int .i64 k ∧ ∀ j, j < k → nth Pr j ∈ M) (fun _ i => Pr.length - (intOf i).toNat)
  case atStart => exact ⟨0, Nat.zero_le _, rfl, fun j hj => by omega⟩
  case round =>
    obtain ⟨k, hk, rfl, hh⟩ := hrel
    have HH := hide hh
    clear hh
    by_cases hlt : k < Pr.length
    · have hidx := fun w => run_index_at (P := Tryf.prog) (c := pc) Tryf.underlying22 size9 HP.out.pl hlt w
      have hc := HP.out.c0 k hlt
      have hl := HP.out.lt k hlt
      have SM := HM.out.below (below1 w (Obj.cells #[.int .i64 0, .int .i64 0, .int .i64 0, .bool false, .bool false, .bool false] 31))
      cases g : has M (nth Pr k)
      · have HBAD : Hid (Bad M Pr Vo) := .inl ⟨nth Pr k, has_iff.1 (has_nth hlt), has_not.1 g⟩
        go_wp2_with (first
          | (go_at_call 11; refine (contains ma M mc (nth Pr k) _ SM (by omega)).mono ?_; rintro e w' ⟨rfl, rfl⟩)
          | (go_at_call 12; refine (errorfA (w.heap.size + 1) (nth Pr k) _ ?_).mono ?_; simp; rintro e w1 ⟨a, rfl, hb⟩; have z0 : w1.cell? ⟨w.heap.size, 0, none⟩ = some (.int .i64 0) := (keepZ hb 0).1; have y0 := (keepZ hb 0).2; have z1 : w1.cell? ⟨w.heap.size, 1, none⟩ = some (.int .i64 0) := (keepZ hb 1).1; have y1 := (keepZ hb 1).2; have z2 : w1.cell? ⟨w.heap.size, 2, none⟩ = some (.int .i64 0) := (keepZ hb 2).1; have y2 := (keepZ hb 2).2; have z3 : w1.cell? ⟨w.heap.size, 3, none⟩ = some (.bool false) := (keepZ hb 3).1; have y3 := (keepZ hb 3).2; have z4 : w1.cell? ⟨w.heap.size, 4, none⟩ = some (.bool false) := (keepZ hb 4).1; have y4 := (keepZ hb 4).2; have z5 : w1.cell? ⟨w.heap.size, 5, none⟩ = some (.bool false) := (keepZ hb 5).1; have y5 := (keepZ hb 5).2))
        exact bodyPost_ret (v := .tuple #[zeroT, .iface 44 (.pointer (some a))]) (by simp [zeroT, results, Tryf.results9, go_sem, z0, z1, z2, z3, z4, z5]) rfl ⟨badBelow hb _ _ _ _ _ _, .inl ⟨HBAD.out, a, rfl⟩⟩
      · have hin := hide (has_iff.1 g)
        go_wp2_with (go_at_call 11; refine (contains ma M mc (nth Pr k) _ SM (by omega)).mono ?_; rintro e w' ⟨rfl, rfl⟩)
        go_round
        case rel => exact ⟨k + 1, by omega, by go_num, fun j hj => by
          by_cases e : j = k
          · rw [e]; exact hin.out
          · exact HH.out j (by omega)⟩
        case measure => simp [intOf]; omega
    · obtain rfl : k = Pr.length := by omega
      have HG1 : Hid (∀ x, x ∈ Pr → x ∈ M) := fun x hx => by
        obtain ⟨j, hj, e⟩ := List.getElem_of_mem hx
        have := HH.out j hj
        rwa [nth_eq hj, e] at this
      clear HH hlt hk
      go_wp2
      go_loop [11, 34] (fun _ i => ∃ k : Nat, k ≤ Vo.length ∧ i = .int .i64 k ∧ ∀ j, j < k → nth Vo j ∈ Pr) (fun _ i => Vo.length - (intOf i).toNat)
      case atStart => exact ⟨0, Nat.zero_le _, rfl, fun j hj => by omega⟩
      case round =>
        obtain ⟨k, hk, rfl, hh⟩ := hrel
        have HH := hide hh
        clear hh
        by_cases hlt : k < Vo.length
        · have hidx := fun w => run_index_at (P := Tryf.prog) (c := vc) Tryf.underlying22 size9 HV.out.pl hlt w
          have hc := HV.out.c0 k hlt
          have hl := HV.out.lt k hlt
          have SPr := HP.out.below (below1 w (Obj.cells #[.int .i64 0, .int .i64 0, .int .i64 0, .bool false, .bool false, .bool false] 31))
          cases g : has Pr (nth Vo k)
          · have HBAD : Hid (Bad M Pr Vo) := .inr ⟨nth Vo k, has_iff.1 (has_nth hlt), has_not.1 g⟩
            go_wp2_with (first
              | (go_at_call 11; refine (contains pa Pr pc (nth Vo k) _ SPr (by omega)).mono ?_; rintro e w' ⟨rfl, rfl⟩)
              | (go_at_call 12; refine (errorfB (w.heap.size + 1) (nth Vo k) _ ?_).mono ?_; simp; rintro e w1 ⟨a, rfl, hb⟩; have z0 : w1.cell? ⟨w.heap.size, 0, none⟩ = some (.int .i64 0) := (keepZ hb 0).1; have y0 := (keepZ hb 0).2; have z1 : w1.cell? ⟨w.heap.size, 1, none⟩ = some (.int .i64 0) := (keepZ hb 1).1; have y1 := (keepZ hb 1).2; have z2 : w1.cell? ⟨w.heap.size, 2, none⟩ = some (.int .i64 0) := (keepZ hb 2).1; have y2 := (keepZ hb 2).2; have z3 : w1.cell? ⟨w.heap.size, 3, none⟩ = some (.bool false) := (keepZ hb 3).1; have y3 := (keepZ hb 3).2; have z4 : w1.cell? ⟨w.heap.size, 4, none⟩ = some (.bool false) := (keepZ hb 4).1; have y4 := (keepZ hb 4).2; have z5 : w1.cell? ⟨w.heap.size, 5, none⟩ = some (.bool false) := (keepZ hb 5).1; have y5 := (keepZ hb 5).2))
            exact bodyPost_ret (v := .tuple #[zeroT, .iface 44 (.pointer (some a))]) (by simp [zeroT, results, Tryf.results9, go_sem, z0, z1, z2, z3, z4, z5]) rfl ⟨badBelow hb _ _ _ _ _ _, .inl ⟨HBAD.out, a, rfl⟩⟩
          · have hin := hide (has_iff.1 g)
            go_wp2_with (go_at_call 11; refine (contains pa Pr pc (nth Vo k) _ SPr (by omega)).mono ?_; rintro e w' ⟨rfl, rfl⟩)
            go_round
            case rel => exact ⟨k + 1, by omega, by go_num, fun j hj => by
              by_cases e : j = k
              · rw [e]; exact hin.out
              · exact HH.out j (by omega)⟩
            case measure => simp [intOf]; omega
        · obtain rfl : k = Vo.length := by omega
          have HG : Hid (¬ Bad M Pr Vo) := by
            rintro (⟨x, hx, hn⟩ | ⟨x, hx, hn⟩)
            · exact hn (HG1.out x hx)
            · obtain ⟨j, hj, e⟩ := List.getElem_of_mem hx
              have := HH.out j hj
              rw [nth_eq hj, e] at this
              exact hn this
          clear HH hlt hk HG1
          have hwr : IntKind.i64.wrap ((M.length : Int) - (R.length : Int)) = (M.length : Int) - (R.length : Int) := by rw [IntKind.wrap_i64]; omega
          have nb : ¬ w.heap.size + 1 = bb := by omega
          have nb' : ¬ bb = w.heap.size + 1 := by omega
          go_wp2
          go_cut [12] from 48 to 65 (fun t wc => ∃ (tb : Nat) (Kp Kv : List ByteArray), t = .pointer (some ⟨tb, 0, none⟩) ∧ (Kp.Nodup ∧ (∀ x, x ∈ Kp ↔ x ∈ Pr ∧ x ∉ R) ∧ Kv.Nodup ∧ (∀ x, x ∈ Kv ↔ x ∈ Vo ∧ x ∉ R)) ∧ Kp.length ≤ Pr.length ∧ Kv.length ≤ Vo.length ∧ TAt w wc tb ((M.length : Int) - R.length) Kp.length Kv.length false false false)
          case first =>
            go_region_held3 (fun w' => w'.cell? ⟨bb, 0, none⟩ = some (.slice ma M.length mc) ∧ w'.cell? ⟨bb, 1, none⟩ = some (.slice ra R.length rc)) (go_keep)
              (first
                | (go_at_call_of 13 (Value.slice pa Pr.length pc); refine (nonRelated' bb ra R rc pa Pr pc w _ hb1 HR.out HP.out br bp SP.out ?_).mono ?_; (first | exact (below1 w _).drew | exact (below2 w _ _).drew); rintro e w1 ⟨Kp, np, mp, rfl, hw1, B1, lp⟩; have c0 := cell_below B1 hb0 hbl; have c1 := cell_below B1 hb1 hbl; (first | (have T := (Z6.new2 w _).below hw1; have RZ := (Z6.old2 w _).below hw1) | (have RZ := (Z6.new1 w).below hw1)); have l1 := RZ.lt; have n1 : ¬ w1.heap.size = bb := (by have := B1.size; omega); have n1' : ¬ bb = w1.heap.size := (by omega))
                | (go_at_call_of 13 (Value.slice va Vo.length vc); refine (nonRelated' bb ra R rc va Vo vc w _ hb1 HR.out HV.out br bv SV.out ?_).mono ?_; (first | exact B1 | exact B1.alloc B1.size _); rintro e w2 ⟨Kv, nv, mv, rfl, hw2, B2, lv⟩; have e0 := cell_below B2 hb0 hbl; have e1 := cell_below B2 hb1 hbl; (first | (have RZ2 := RZ.below hw2; have T2 := T.below hw2; have TC := T2; obtain ⟨t0, t1, t2, t3, t4, t5, tf⟩ := T2; have tf0 := tf 0; have tf1 := tf 1; have tf2 := tf 2; have tf3 := tf 3; have tf4 := tf 4; have tf5 := tf 5) | (have RZ2 := RZ.below hw2) | (have RZ2 := (RZ.alloc _).below hw2; have T2 := (Z6.new w1).below hw2; have TC := T2; obtain ⟨t0, t1, t2, t3, t4, t5, tf⟩ := T2; have tf0 := tf 0; have tf1 := tf 1; have tf2 := tf 2; have tf3 := tf 3; have tf4 := tf 4; have tf5 := tf 5)); have l2 := RZ2.lt; have n2 : ¬ w2.heap.size = bb := (by have := B2.size; omega); have n2' : ¬ bb = w2.heap.size := (by omega)))
            all_goals go_wp2_with fail
            all_goals go_meet
            · exact ⟨_, Kp, Kv, rfl, ⟨np, mp, nv, mv⟩, lp, lv, TAt.ofNew B2 RZ2 _ _ _⟩
            · exact ⟨_, Kp, Kv, rfl, ⟨np, mp, nv, mv⟩, lp, lv, TAt.ofSet B2 RZ2 TC l1 _ _ _⟩
            · exact ⟨_, Kp, Kv, rfl, ⟨np, mp, nv, mv⟩, lp, lv, TAt.ofSet B2 RZ2 TC (by omega) _ _ _⟩
          case rest =>
          obtain ⟨tb, Kp, Kv, rfl, hKK, lp, lv, hT⟩ := hcut
          have KK := hide hKK
          have BEL := hide hT.bel
          have x0 := hT.c0
          have x1 := hT.c1
          have x2 := hT.c2
          have x3 := hT.c3
          have x4 := hT.c4
          have x5 := hT.c5
          have xf3 := hT.fr 3
          have xf4 := hT.fr 4
          have xf5 := hT.fr 5
          have z0 := hT.rz.c0
          have z1 := hT.rz.c1
          have z2 := hT.rz.c2
          have z3 := hT.rz.c3
          have z4 := hT.rz.c4
          have z5 := hT.rz.c5
          have zf0 := hT.rz.fr 0
          have zf1 := hT.rz.fr 1
          have zf2 := hT.rz.fr 2
          have zf3 := hT.rz.fr 3
          have zf4 := hT.rz.fr 4
          have zf5 := hT.rz.fr 5
          have up := hT.up
          have ne1 : ¬ tb = w.heap.size := by omega
          have ne2 : ¬ w.heap.size = tb := by omega
          clear hKK hT nb nb' hwr hb0 hb1 HM HR HP HV SP SV hbl
          by_cases h3 : (Kp.length : Int) < 3
          · go_wp2
            refine bodyPost_ret (v := .tuple #[tval ((M.length : Int) - R.length) Kp.length Kv.length, .nilIface]) ?_ rfl ⟨?_, .inr ⟨HG.out, Kp, Kv, KK.out.1, KK.out.2.1, KK.out.2.2.1, KK.out.2.2.2, rfl⟩⟩
            · simp [tval, results, Tryf.results9, go_sem, z0, z1, z2, z3, z4, z5, h3]
            · refine below_set (below_set (below_set (below_set (below_set (below_set ?_ _ _ (Nat.le_refl _) _) _ _ (Nat.le_refl _) _) _ _ (Nat.le_refl _) _) _ _ (Nat.le_refl _) _) _ _ (Nat.le_refl _) _) _ _ (Nat.le_refl _) _
              exact below_set (below_set (below_set BEL.out _ _ (Nat.le_of_lt up) _) _ _ (Nat.le_of_lt up) _) _ _ (Nat.le_of_lt up) _
          · go_wp2
            refine bodyPost_ret (v := .tuple #[tval ((M.length : Int) - R.length) Kp.length Kv.length, .nilIface]) ?_ rfl ⟨?_, .inr ⟨HG.out, Kp, Kv, KK.out.1, KK.out.2.1, KK.out.2.2.1, KK.out.2.2.2, rfl⟩⟩
            · simp [tval, results, Tryf.results9, go_sem, z0, z1, z2, z3, z4, z5, h3]
            · refine below_set (below_set (below_set (below_set (below_set (below_set ?_ _ _ (Nat.le_refl _) _) _ _ (Nat.le_refl _) _) _ _ (Nat.le_refl _) _) _ _ (Nat.le_refl _) _) _ _ (Nat.le_refl _) _) _ _ (Nat.le_refl _) _
              exact below_set (below_set (below_set BEL.out _ _ (Nat.le_of_lt up) _) _ _ (Nat.le_of_lt up) _) _ _ (Nat.le_of_lt up) _
end Go.Proofs.Qxb6628425aFmt
