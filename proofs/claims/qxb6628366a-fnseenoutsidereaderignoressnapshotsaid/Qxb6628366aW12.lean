import Derived.Test.Qxb6628366aW11
namespace Go.Proofs.Qxb6628366a
open Go.RowKit

/-- The versions of an entry, oldest first, the latest last. -/
def ver (h : LVer) (on : Nat) (V : Nat → LVer) (j : Nat) : LVer := if j = on then h else V j
def vrow (ga : Option Addr) (on : Nat) (G : Nat → Option Addr) (j : Nat) : Option Addr := if j = on then ga else G j

/-- Which version the reader comes to. -/
def seenIdx (S : Nat → Bool) (n : Int) (h : LVer) (on : Nat) (V : Nat → LVer) (r snap : Int) (k : Nat) : Option Nat := lastVis (fun j => !passed S n (ver h on V j).writer (ver h on V j).com r snap) k

/-- What 'Seen' hands back. -/
def seenVal (h : LVer) (on : Nat) (V : Nat → LVer) (p : Nat → Nat) (n : Int) (ga : Option Addr) (G : Nat → Option Addr) : Option Nat → Value
  | none => .tuple #[.agg #[.slice none 0 0, .bool false, .pointer none, .int .u64 0], .bool false]
  | some j => .tuple #[.agg #[.slice (vrow ga on G j) (ver h on V j).rn (ver h on V j).rn, .bool (ver h on V j).ghost, .pointer (wptr p n (ver h on V j).writer), .int .u64 (ver h on V j).com], .bool (!(ver h on V j).ghost)]

/-- v's own variable, and the result's. -/
structure AtVer (w wr : World) (x : LVer) (xa : Option Addr) (p : Nat → Nat) (n : Int) : Prop where
  bel : Below w.heap.size w wr
  c0 : wr.cell? ⟨w.heap.size + 1, 0, none⟩ = some (.slice xa x.rn x.rn)
  c1 : wr.cell? ⟨w.heap.size + 1, 1, none⟩ = some (.bool x.ghost)
  c2 : wr.cell? ⟨w.heap.size + 1, 2, none⟩ = some (.pointer (wptr p n x.writer))
  c3 : wr.cell? ⟨w.heap.size + 1, 3, none⟩ = some (.int .u64 x.com)
  f0 : ∀ j, wr.frozen? ⟨w.heap.size + 1, j, none⟩ = false
  r0 : wr.cell? ⟨w.heap.size, 0, none⟩ = some (.slice none 0 0)
  r1 : wr.cell? ⟨w.heap.size, 1, none⟩ = some (.bool false)
  r2 : wr.cell? ⟨w.heap.size, 2, none⟩ = some (.pointer none)
  r3 : wr.cell? ⟨w.heap.size, 3, none⟩ = some (.int .u64 0)
  g0 : ∀ j, wr.frozen? ⟨w.heap.size, j, none⟩ = false

theorem AtVer.start (w : World) (x : LVer) (xa : Option Addr) (p : Nat → Nat) (n : Int) : AtVer w ((w.alloc (Obj.cells #[Value.slice none 0 0, Value.bool false, Value.pointer none, Value.int IntKind.u64 0] 40)).alloc
    (Obj.cells #[Value.slice xa x.rn x.rn, Value.bool x.ghost, Value.pointer (wptr p n x.writer), Value.int IntKind.u64 x.com] 40)).drew x xa p n := by
  refine ⟨(below2 _ _ _).drew, ?_, ?_, ?_, ?_, fun j => ?_, ?_, ?_, ?_, ?_, fun j => ?_⟩
  all_goals simp [World.cell?_drew, World.frozen?_drew]

theorem AtVer.step {w wr : World} {x : LVer} {xa : Option Addr} {p : Nat → Nat} {n : Int} (h : AtVer w wr x xa p n) (y : LVer) (ya : Option Addr) :
    AtVer w ((((wr.setCell ⟨w.heap.size + 1, 0, none⟩ (.slice ya y.rn y.rn)).setCell ⟨w.heap.size + 1, 1, none⟩ (.bool y.ghost)).setCell ⟨w.heap.size + 1, 2, none⟩ (.pointer (wptr p n y.writer))).setCell ⟨w.heap.size + 1, 3, none⟩ (.int .u64 y.com)) y ya p n := by
  have n1 : ∀ a b c d : Nat, c ≠ d → (⟨a, c, none⟩ : Addr) ≠ ⟨b, d, none⟩ := fun a b c d hc e => by injection e; omega
  have n2 : ∀ a b c d : Nat, a ≠ b → (⟨a, c, none⟩ : Addr) ≠ ⟨b, d, none⟩ := fun a b c d hc e => by injection e; omega
  refine ⟨below_set (below_set (below_set (below_set h.bel _ _ (by omega) _) _ _ (by omega) _) _ _ (by omega) _) _ _ (by omega) _, ?_, ?_, ?_, ?_, fun j => ?_, ?_, ?_, ?_, ?_, fun j => ?_⟩
  · rw [cell_set_ne _ (n1 _ _ _ _ (by omega)), cell_set_ne _ (n1 _ _ _ _ (by omega)), cell_set_ne _ (n1 _ _ _ _ (by omega))]; exact cell_set_same _ h.c0
  · rw [cell_set_ne _ (n1 _ _ _ _ (by omega)), cell_set_ne _ (n1 _ _ _ _ (by omega))]; exact cell_set_same _ ((cell_set_ne _ (n1 _ _ _ _ (by omega))).trans h.c1)
  · rw [cell_set_ne _ (n1 _ _ _ _ (by omega))]; exact cell_set_same _ ((cell_set_ne _ (n1 _ _ _ _ (by omega))).trans ((cell_set_ne _ (n1 _ _ _ _ (by omega))).trans h.c2))
  · exact cell_set_same _ ((cell_set_ne _ (n1 _ _ _ _ (by omega))).trans ((cell_set_ne _ (n1 _ _ _ _ (by omega))).trans ((cell_set_ne _ (n1 _ _ _ _ (by omega))).trans h.c3)))
  · simp only [World.frozen?_setCell]; exact h.f0 j
  · rw [cell_set_ne _ (n2 _ _ _ _ (by omega)), cell_set_ne _ (n2 _ _ _ _ (by omega)), cell_set_ne _ (n2 _ _ _ _ (by omega)), cell_set_ne _ (n2 _ _ _ _ (by omega))]; exact h.r0
  · rw [cell_set_ne _ (n2 _ _ _ _ (by omega)), cell_set_ne _ (n2 _ _ _ _ (by omega)), cell_set_ne _ (n2 _ _ _ _ (by omega)), cell_set_ne _ (n2 _ _ _ _ (by omega))]; exact h.r1
  · rw [cell_set_ne _ (n2 _ _ _ _ (by omega)), cell_set_ne _ (n2 _ _ _ _ (by omega)), cell_set_ne _ (n2 _ _ _ _ (by omega)), cell_set_ne _ (n2 _ _ _ _ (by omega))]; exact h.r2
  · rw [cell_set_ne _ (n2 _ _ _ _ (by omega)), cell_set_ne _ (n2 _ _ _ _ (by omega)), cell_set_ne _ (n2 _ _ _ _ (by omega)), cell_set_ne _ (n2 _ _ _ _ (by omega))]; exact h.r3
  · simp only [World.frozen?_setCell]; exact h.g0 j

set_option maxRecDepth 100000 in
set_option maxHeartbeats 4000000 in
theorem seen (eb : Nat) (h : LVer) (on : Nat) (V : Nat → LVer) (p : Nat → Nat) (oa : Option Addr) (n : Nat) (S : Nat → Bool) (ga va : Option Addr) (G : Nat → Option Addr) (r snap : Int) (w : World) (he : EntryIn w eb h on V p n ga va G) (ho : OwnersIn w oa n p S) (bo : on ≤ 1048576) :
    Calls Try.prog 10 #[.pointer (some ⟨eb, 0, none⟩), .pointer (wptr p n r), .int .u64 snap] w (Ret1 w (seenVal h on V p n ga G (seenIdx S n h on V r snap (on + 1)))) := by
  have HE : Hid (EntryIn w eb h on V p n ga va G) := he
  have HO : Hid (OwnersIn w oa n p S) := ho
  have c0 := he.c0
  have c1 := he.c1
  have c2 := he.c2
  have c3 := he.c3
  have c4 := he.c4
  have hl := he.lt
  clear he ho
  go_enter Try.func10, Try.ntmps10
  go_wp2
  go_region
  go_wp2
  go_loopw [9] (fun i wr => ∃ k : Nat, k ≤ on ∧ i = .int .i64 k ∧ AtVer w wr (ver h on V k) (vrow ga on G k) p n ∧ seenIdx S n h on V r snap (on + 1) = seenIdx S n h on V r snap (k + 1)) (fun i _ => (intOf i).toNat)
  case atStart => exact ⟨on, Nat.le_refl _, rfl, by rw [ver, vrow, if_pos rfl, if_pos rfl]; exact AtVer.start w h ga p n, rfl⟩
  case round =>
    obtain ⟨k, hk, rfl, hat, hix⟩ := hrel
    have HIX : Hid (seenIdx S n h on V r snap (on + 1) = seenIdx S n h on V r snap (k + 1)) := hix
    have AT := hat
    clear hix hat
    have BEL : Hid (Below w.heap.size w wr) := AT.bel
    have OW := HO.out.below BEL.out
    have k2 := AT.c2
    have k3 := AT.c3
    have k0 := AT.c0
    have k1 := AT.c1
    have k4 := cell_below BEL.out c4 hl
    have m0 := AT.r0
    have m1 := AT.r1
    have m2 := AT.r2
    have m3 := AT.r3
    have z0 := AT.g0 0
    have z1 := AT.g0 1
    have z2 := AT.g0 2
    have z3 := AT.g0 3
    have y0 := AT.f0 0
    have y1 := AT.f0 1
    have y2 := AT.f0 2
    have y3 := AT.f0 3
    cases hp : passed S n (ver h on V k).writer (ver h on V k).com r snap
    · have HI : Hid (seenIdx S n h on V r snap (on + 1) = some k) := by rw [HIX.out]; simp [Hid, seenIdx, lastVis, hp]
      go_wp2_with (go_at_call 19; refine (passedBy _ _ _ r snap oa n p S _ OW k2 k3).mono ?_; rintro e w' ⟨rfl, rfl⟩)
      go_region
      go_wp2
      exact bodyPost_ret (v := seenVal h on V p n ga G (some k)) (by simp [seenVal, results, Try.results10, go_sem, m0, m1, m2, m3]) rfl ⟨by rw [HI.out], (below_set (below_set (below_set (below_set BEL.out _ _ (by omega) _) _ _ (by omega) _) _ _ (by omega) _) _ _ (by omega) _).drew⟩
    · have HP : Hid (passed S n (ver h on V k).writer (ver h on V k).com r snap = true) := hp
      cases k with
      | zero =>
        have HI : Hid (seenIdx S n h on V r snap (on + 1) = none) := by rw [HIX.out]; simp [Hid, seenIdx, lastVis, hp]
        go_wp2_with (go_at_call 19; refine (passedBy _ _ _ r snap oa n p S _ OW k2 k3).mono ?_; rintro e w' ⟨rfl, rfl⟩)
        exact bodyPost_ret (v := seenVal h on V p n ga G none) (by simp [seenVal, results, Try.results10, go_sem, m0, m1, m2, m3]) rfl ⟨by rw [HI.out], below_set (below_set (below_set (below_set BEL.out _ _ (by omega) _) _ _ (by omega) _) _ _ (by omega) _) _ _ (by omega) _⟩
      | succ m =>
        have hidx := fun w => run_index_at (P := Try.prog) (c := on) Try.underlying51 size40 HE.out.pl (show m < on by omega) w
        have BV := HE.out.bv.below BEL.out
        have e0 := BV.c0 m (by omega)
        have e1 := BV.c1 m (by omega)
        have e2 := BV.c2 m (by omega)
        have e3 := BV.c3 m (by omega)
        go_wp2_with (go_at_call 19; refine (passedBy _ _ _ r snap oa n p S _ OW k2 k3).mono ?_; rintro e w' ⟨rfl, rfl⟩)
        go_roundw
        case rel => exact ⟨m, by omega, by go_num, by rw [ver, vrow, if_neg (by omega), if_neg (by omega)]; exact AT.step (V m) (G m), by rw [HIX.out]; simp [seenIdx, lastVis, HP.out]⟩
        case measure => simp [intOf]
end Go.Proofs.Qxb6628366a
