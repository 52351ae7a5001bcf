import Derived.Test.Qxb6628443aW1
import Derived.Test.Qxb6628443aW3
import Derived.Test.Qxb6628443aW5
import Derived.Test.Qxb6628443aW7
import Derived.Test.Qxb6628443aLen
namespace Go.Proofs.Qxb6628443a
open Go.RowKit

def LS (b0 b o : Nat) (r : LI) (w' : World) : Prop := w'.cell? ⟨b0, 0, none⟩ = some (.string r.name) ∧ w'.cell? ⟨b0, 1, none⟩ = some (.string r.holder) ∧ w'.cell? ⟨b0, 2, none⟩ = some (.int .u64 r.token) ∧ w'.cell? ⟨b0, 3, none⟩ = some (.int .i64 r.ttl) ∧ w'.cell? ⟨b0, 4, none⟩ = some (.int .i64 r.rem) ∧ w'.cell? ⟨b0, 5, none⟩ = some (.string r.key) ∧ w'.cell? ⟨b, o, none⟩ = some (.string r.name) ∧ w'.cell? ⟨b, o + 1, none⟩ = some (.string r.holder) ∧ w'.cell? ⟨b, o + 2, none⟩ = some (.int .u64 r.token) ∧ w'.cell? ⟨b, o + 3, none⟩ = some (.int .i64 r.ttl) ∧ w'.cell? ⟨b, o + 4, none⟩ = some (.int .i64 r.rem) ∧ w'.cell? ⟨b, o + 5, none⟩ = some (.string r.key)
theorem LS.below {b0 b o : Nat} {r : LI} {w' w2 : World} (h : LS b0 b o r w') (hb : Below w'.heap.size w' w2) : LS b0 b o r w2 :=
  ⟨cell_below hb h.1 (lt_of_cell h.1), cell_below hb h.2.1 (lt_of_cell h.2.1), cell_below hb h.2.2.1 (lt_of_cell h.2.2.1), cell_below hb h.2.2.2.1 (lt_of_cell h.2.2.2.1), cell_below hb h.2.2.2.2.1 (lt_of_cell h.2.2.2.2.1), cell_below hb h.2.2.2.2.2.1 (lt_of_cell h.2.2.2.2.2.1), cell_below hb h.2.2.2.2.2.2.1 (lt_of_cell h.2.2.2.2.2.2.1), cell_below hb h.2.2.2.2.2.2.2.1 (lt_of_cell h.2.2.2.2.2.2.2.1), cell_below hb h.2.2.2.2.2.2.2.2.1 (lt_of_cell h.2.2.2.2.2.2.2.2.1), cell_below hb h.2.2.2.2.2.2.2.2.2.1 (lt_of_cell h.2.2.2.2.2.2.2.2.2.1), cell_below hb h.2.2.2.2.2.2.2.2.2.2.1 (lt_of_cell h.2.2.2.2.2.2.2.2.2.2.1), cell_below hb h.2.2.2.2.2.2.2.2.2.2.2 (lt_of_cell h.2.2.2.2.2.2.2.2.2.2.2)⟩
def GS (b0 b o : Nat) (r : GI) (w' : World) : Prop := w'.cell? ⟨b0, 0, none⟩ = some (.string r.budget) ∧ w'.cell? ⟨b0, 1, none⟩ = some (.string r.holder) ∧ w'.cell? ⟨b0, 2, none⟩ = some (.int .u64 r.token) ∧ w'.cell? ⟨b0, 3, none⟩ = some (.int .u64 r.units) ∧ w'.cell? ⟨b0, 4, none⟩ = some (.int .i64 r.ttl) ∧ w'.cell? ⟨b0, 5, none⟩ = some (.int .i64 r.rem) ∧ w'.cell? ⟨b0, 6, none⟩ = some (.string r.key) ∧ w'.cell? ⟨b, o, none⟩ = some (.string r.budget) ∧ w'.cell? ⟨b, o + 1, none⟩ = some (.string r.holder) ∧ w'.cell? ⟨b, o + 2, none⟩ = some (.int .u64 r.token) ∧ w'.cell? ⟨b, o + 3, none⟩ = some (.int .u64 r.units) ∧ w'.cell? ⟨b, o + 4, none⟩ = some (.int .i64 r.ttl) ∧ w'.cell? ⟨b, o + 5, none⟩ = some (.int .i64 r.rem) ∧ w'.cell? ⟨b, o + 6, none⟩ = some (.string r.key)
theorem GS.below {b0 b o : Nat} {r : GI} {w' w2 : World} (h : GS b0 b o r w') (hb : Below w'.heap.size w' w2) : GS b0 b o r w2 :=
  ⟨cell_below hb h.1 (lt_of_cell h.1), cell_below hb h.2.1 (lt_of_cell h.2.1), cell_below hb h.2.2.1 (lt_of_cell h.2.2.1), cell_below hb h.2.2.2.1 (lt_of_cell h.2.2.2.1), cell_below hb h.2.2.2.2.1 (lt_of_cell h.2.2.2.2.1), cell_below hb h.2.2.2.2.2.1 (lt_of_cell h.2.2.2.2.2.1), cell_below hb h.2.2.2.2.2.2.1 (lt_of_cell h.2.2.2.2.2.2.1), cell_below hb h.2.2.2.2.2.2.2.1 (lt_of_cell h.2.2.2.2.2.2.2.1), cell_below hb h.2.2.2.2.2.2.2.2.1 (lt_of_cell h.2.2.2.2.2.2.2.2.1), cell_below hb h.2.2.2.2.2.2.2.2.2.1 (lt_of_cell h.2.2.2.2.2.2.2.2.2.1), cell_below hb h.2.2.2.2.2.2.2.2.2.2.1 (lt_of_cell h.2.2.2.2.2.2.2.2.2.2.1), cell_below hb h.2.2.2.2.2.2.2.2.2.2.2.1 (lt_of_cell h.2.2.2.2.2.2.2.2.2.2.2.1), cell_below hb h.2.2.2.2.2.2.2.2.2.2.2.2.1 (lt_of_cell h.2.2.2.2.2.2.2.2.2.2.2.2.1), cell_below hb h.2.2.2.2.2.2.2.2.2.2.2.2.2 (lt_of_cell h.2.2.2.2.2.2.2.2.2.2.2.2.2)⟩

set_option maxRecDepth 100000 in
set_option maxHeartbeats 8000000 in
theorem lastWins (la : Option Addr) (ln lc : Nat) (L : Nat → LI) (tok : Int) (ra : Option Addr) (rn rc : Nat) (R : Nat → RI) (mem : Int) (ba : Option Addr) (bn bc : Nat) (B : Nat → BI) (ga : Option Addr) (gn gc : Nat) (G : Nat → GI) (w : World) (inp : Inp w la ln L ra rn R ba bn B ga gn G)
    (nl : la = none → ln = 0) (nr : ra = none → rn = 0) (nb : ba = none → bn = 0) (ng : ga = none → gn = 0) :
    Calls Try.prog 3 #[.slice la ln lc, .int .u64 tok, .slice ra rn rc, .int .i64 mem, .slice ba bn bc, .slice ga gn gc] w (Ret1 w (.bool true)) := by
  have IN := hide inp
  clear inp
  have NL := hide nl
  have NR := hide nr
  have NB := hide nb
  have NG := hide ng
  clear nl nr nb ng
  go_enter Try.func3, Try.ntmps3
  go_wp2_with fail
  refine (zzBytes5 la ln lc L tok ra rn rc R mem ba bn bc B ga gn gc G _ IN.out).mono ?_
  rintro e w' ⟨b, rfl, hw, hsm⟩
  have hw := hw.symm
  subst hw
  cases b
  · go_wp2
    go_ret
    exact ⟨rfl, Below.refl _ _⟩
  have SM := hide (hsm rfl)
  clear hsm
  go_wp2_with fail
  refine (zzSize la ln lc L ra rn rc R ba bn bc B ga gn gc G _ IN.out SM.out.1 SM.out.2.1 SM.out.2.2.1 SM.out.2.2.2).mono ?_
  rintro e w' ⟨n, rfl, hw⟩
  have hw := hw.symm
  subst hw
  by_cases h5 : 1048576 < n
  · go_wp2
    go_ret
    exact ⟨rfl, Below.refl _ _⟩
  by_cases c1 : 4096 < ln
  · go_wp2
    go_ret
    exact ⟨rfl, Below.refl _ _⟩
  by_cases c2 : 4096 < rn
  · go_wp2
    go_ret
    exact ⟨rfl, Below.refl _ _⟩
  by_cases c3 : 4096 < bn
  · go_wp2
    go_ret
    exact ⟨rfl, Below.refl _ _⟩
  by_cases c4 : 4096 < gn
  · go_wp2
    go_ret
    exact ⟨rfl, Below.refl _ _⟩
  have d0 : decide (1048576 < n) = false := decide_eq_false h5
  have d1 : decide ((4096 : Int) < (ln : Int)) = false := decide_eq_false (by omega)
  have d2 : decide ((4096 : Int) < (rn : Int)) = false := decide_eq_false (by omega)
  have d3 : decide ((4096 : Int) < (bn : Int)) = false := decide_eq_false (by omega)
  have d4 : decide ((4096 : Int) < (gn : Int)) = false := decide_eq_false (by omega)
  have l1 : ln ≤ 4096 := by omega
  have l2 : rn ≤ 4096 := by omega
  have l3 : bn ≤ 4096 := by omega
  have l4 : gn ≤ 4096 := by omega
  clear c1 c2 c3 c4 h5 SM
  go_wp2_with fail
  refine (zzSnap la ln lc L tok ra rn rc R mem ba bn bc B ga gn gc G _ IN.out NL.out NR.out NB.out NG.out l1 l2 l3 l4).mono ?_
  rintro e w2 ⟨lv, rv, bv, gv, k1, k2, k3, k4, rfl, hb2, q1, q2, q3, q4, _⟩
  obtain ⟨xl, rfl, rl, _, _⟩ := q1
  obtain ⟨xr, rfl, rr, zr, _⟩ := q2
  obtain ⟨xb, rfl, rb, _, _⟩ := q3
  obtain ⟨xg, rfl, rg, _, _⟩ := q4
  have IN2 : Hid (Inp w2 xl ln L xr rn R xb bn B xg gn G) := ⟨rl, rr, rb, rg, IN.out.bl, IN.out.br, IN.out.bb, IN.out.bg⟩
  have NX : Hid (xr = none → rn = 0 ∧ rn = 0) := fun h => by
    have : ra = none := by rw [h] at zr; cases ra with | none => rfl | some _ => cases zr
    exact ⟨NR.out this, NR.out this⟩
  have B2 := hide hb2
  have ZR := hide zr
  clear rl rr rb rg zr hb2 d0 d1 d2 d3 d4
  go_wp2_with fail
  refine (newTally xl ln ln L tok xr rn rn R mem xb bn bn B xg gn gn G _ (IN2.out.below (below1 _ _)) NX.out l1 l2 l3 l4).mono ?_
  rintro e w4 ⟨tb, lb, b1, gb, qa, qc, rfl, hb4, hq, ht⟩
  have HB : Hid (Below w.heap.size w w4) := gr_below (gr_alloc B2.out _) hb4
  have HT : Hid (Tal 0 w4 tb lb b1 gb tok mem (foldL (fun i => (L i).name) (fun i => (L i).agg) ln) (foldL (fun i => (B i).name) (fun i => (B i).agg) bn) (foldL (fun i => (G i).token) (fun i => (G i).agg) gn) qa qc rn (fun i => (R i).c)) := ht.low (Nat.zero_le _)
  have HQ := hide (hq.trans ZR.out)
  clear hb4 hq ht IN2 NX B2 ZR
  go_wp2_with fail
  refine (acc9 tb tok _ HT.out.c1).mono ?_
  rintro e w' ⟨rfl, hw⟩
  have hw := hw.symm
  subst hw
  go_wp2_with fail
  refine (acc10 tb mem _ HT.out.c3).mono ?_
  rintro e w' ⟨rfl, hw⟩
  have hw := hw.symm
  subst hw
  go_wp2_with fail
  refine (acc12 tb qa rn qc _ HT.out.c2).mono ?_
  rintro e w' ⟨rfl, hw⟩
  have hw := hw.symm
  subst hw
  go_wp2_with fail
  refine (relsAre qa rn qc ra rc R _ HT.out.r (IN.out.r.below HB.out) HQ.out (by omega)).mono ?_
  rintro e wr ⟨rfl, hb5⟩
  have ht := HT.out.grow hb5
  have hb := gr_below HB.out hb5
  clear HT HB hb5
  have HT := hide ht
  have HB := hide hb
  clear ht hb
  go_wp2_with fail
  refine (acc13 tb lb _ HT.out.c0).mono ?_
  rintro e w' ⟨rfl, hw⟩
  have hw := hw.symm
  subst hw
  go_wp2
  go_loopw [16, 17] (fun d i wx => ∃ k c : Nat, k ≤ ln ∧ i = .int .i64 k ∧ d = .int .i64 c ∧ c = cnt (fun j => (L j).name) ln k ∧ Below w.heap.size w wx ∧ Tal 0 wx tb lb b1 gb tok mem (foldL (fun i => (L i).name) (fun i => (L i).agg) ln) (foldL (fun i => (B i).name) (fun i => (B i).agg) bn) (foldL (fun i => (G i).token) (fun i => (G i).agg) gn) qa qc rn (fun i => (R i).c)) (fun _ i _ => ln - (intOf i).toNat)
  case atStart => exact ⟨0, 0, Nat.zero_le _, rfl, rfl, rfl, HB.out, HT.out⟩
  case round =>
    clear HT HB
    obtain ⟨k, c, hk, rfl, rfl, hc, hb, ht⟩ := hrel
    have HB := hide hb
    have HT := hide ht
    have HC := hide hc
    have cb : c ≤ 4096 := by have := cnt_le (fun j => (L j).name) ln k; omega
    clear hb ht hc
    by_cases hlt : k < ln
    · go_wp2_with fail
      refine (laterLease la ln lc L k _ (IN.out.l.below HB.out) (by omega) hlt).mono ?_
      rintro e w6 ⟨rfl, hb6⟩
      have ht := HT.out.grow hb6
      have hb := gr_below HB.out hb6
      clear HT HB hb6
      have HT := hide ht
      have HB := hide hb
      clear ht hb
      cases g : laterB (fun j => (L j).name) ln k
      · have hidx := fun w => run_index_at (P := Try.prog) (c := lc) Try.underlying22 size50 IN.out.l.pl hlt w
        have i0 : w.cell? ⟨blk la, ofs la + k * 6, none⟩ = some (.string (L k).name) := IN.out.l.c k hlt 0 (by omega)
        have i0 := cell_below HB.out i0 (IN.out.l.lt k hlt (by omega))
        have i1 : w.cell? ⟨blk la, ofs la + k * 6 + 1, none⟩ = some (.string (L k).holder) := IN.out.l.c k hlt 1 (by omega)
        have i1 := cell_below HB.out i1 (IN.out.l.lt k hlt (by omega))
        have i2 : w.cell? ⟨blk la, ofs la + k * 6 + 2, none⟩ = some (.int .u64 (L k).token) := IN.out.l.c k hlt 2 (by omega)
        have i2 := cell_below HB.out i2 (IN.out.l.lt k hlt (by omega))
        have i3 : w.cell? ⟨blk la, ofs la + k * 6 + 3, none⟩ = some (.int .i64 (L k).ttl) := IN.out.l.c k hlt 3 (by omega)
        have i3 := cell_below HB.out i3 (IN.out.l.lt k hlt (by omega))
        have i4 : w.cell? ⟨blk la, ofs la + k * 6 + 4, none⟩ = some (.int .i64 (L k).rem) := IN.out.l.c k hlt 4 (by omega)
        have i4 := cell_below HB.out i4 (IN.out.l.lt k hlt (by omega))
        have i5 : w.cell? ⟨blk la, ofs la + k * 6 + 5, none⟩ = some (.string (L k).key) := IN.out.l.c k hlt 5 (by omega)
        have i5 := cell_below HB.out i5 (IN.out.l.lt k hlt (by omega))
        have hlook : (Instr.lookup 43 (.map (some lb)) (.string (L k).name) true).run Try.prog w6 = .ok (.tuple #[.agg #[.string (L k).name, .string (L k).holder, .int .u64 (L k).token, .int .i64 (L k).ttl, .int .i64 (L k).rem, .string (L k).key], .bool true]) w6 := run_look encS Try.underlying43 Try.underlying9 HT.out.l (look_last hlt g)
        have HC2 := hide ((congrArg (· + 1) HC.out).trans (cnt_last g).symm)
        clear g HC
        obtain ⟨W, hW⟩ : ∃ W, W = w6.alloc (.cells #[.string (L k).name, .string (L k).holder, .int .u64 (L k).token, .int .i64 (L k).ttl, .int .i64 (L k).rem, .string (L k).key] 47) := ⟨_, rfl⟩
        have gW : Below w6.heap.size w6 W := by rw [hW]; exact below1 _ _
        go_upto_region 25 with fail
        rw [← hW]
        have y0 : W.cell? ⟨w6.heap.size, 0, none⟩ = some (.string (L k).name) := by rw [hW]; simp
        have y1 : W.cell? ⟨w6.heap.size, 1, none⟩ = some (.string (L k).holder) := by rw [hW]; simp
        have y2 : W.cell? ⟨w6.heap.size, 2, none⟩ = some (.int .u64 (L k).token) := by rw [hW]; simp
        have y3 : W.cell? ⟨w6.heap.size, 3, none⟩ = some (.int .i64 (L k).ttl) := by rw [hW]; simp
        have y4 : W.cell? ⟨w6.heap.size, 4, none⟩ = some (.int .i64 (L k).rem) := by rw [hW]; simp
        have y5 : W.cell? ⟨w6.heap.size, 5, none⟩ = some (.string (L k).key) := by rw [hW]; simp
        have i0 := cell_below gW i0 (lt_of_cell i0)
        have i1 := cell_below gW i1 (lt_of_cell i1)
        have i2 := cell_below gW i2 (lt_of_cell i2)
        have i3 := cell_below gW i3 (lt_of_cell i3)
        have i4 := cell_below gW i4 (lt_of_cell i4)
        have i5 := cell_below gW i5 (lt_of_cell i5)
        have HTW := hide (HT.out.grow gW)
        have HBW := hide (gr_below HB.out gW)
        clear hW gW HT HB hlook
        go_region_held3 (fun w' => w'.cell? ⟨w6.heap.size, 0, none⟩ = some (.string (L k).name) ∧ w'.cell? ⟨w6.heap.size, 1, none⟩ = some (.string (L k).holder) ∧ w'.cell? ⟨w6.heap.size, 2, none⟩ = some (.int .u64 (L k).token) ∧ w'.cell? ⟨w6.heap.size, 3, none⟩ = some (.int .i64 (L k).ttl) ∧ w'.cell? ⟨w6.heap.size, 4, none⟩ = some (.int .i64 (L k).rem) ∧ w'.cell? ⟨w6.heap.size, 5, none⟩ = some (.string (L k).key) ∧ w'.cell? ⟨blk la, ofs la + k * 6, none⟩ = some (.string (L k).name) ∧ w'.cell? ⟨blk la, ofs la + k * 6 + 1, none⟩ = some (.string (L k).holder) ∧ w'.cell? ⟨blk la, ofs la + k * 6 + 2, none⟩ = some (.int .u64 (L k).token) ∧ w'.cell? ⟨blk la, ofs la + k * 6 + 3, none⟩ = some (.int .i64 (L k).ttl) ∧ w'.cell? ⟨blk la, ofs la + k * 6 + 4, none⟩ = some (.int .i64 (L k).rem) ∧ w'.cell? ⟨blk la, ofs la + k * 6 + 5, none⟩ = some (.string (L k).key)) (first | go_keep | exact LS.below (b0 := w6.heap.size) (b := blk la) (o := ofs la + k * 6) (r := L k) (by assumption) (by assumption))
          (first | (go_at_call 15; refine (leaseIs (L k) _).mono ?_; rintro e w7 ⟨rfl, hb7⟩))
        rename_i hh
        clear hh
        have ht := HTW.out.drew.grow hb7
        have hb := gr_below (gr_drew HBW.out) hb7
        clear HTW HBW
        have HT := hide ht
        have HB := hide hb
        clear ht hb hb7 i0 i1 i2 i3 i4 i5 y0 y1 y2 y3 y4 y5
        go_wp2
        go_roundw
        case rel => exact ⟨k + 1, c + 1, by omega, by go_num, by go_num, HC2.out, HB.out, HT.out⟩
        case measure => simp [intOf]; omega
      · have HC2 := hide (HC.out.trans (cnt_later g).symm)
        clear g HC
        go_wp2
        go_roundw
        case rel => exact ⟨k + 1, c, by omega, by go_num, rfl, HC2.out, HB.out, HT.out⟩
        case measure => simp [intOf]; omega
    · obtain rfl : ln = k := by omega
      have hlen := run_mlen (P := Try.prog) Try.underlying43 HT.out.l ((len_fold _ _ _).trans HC.out.symm)
      clear hlt hk HC cb
      go_upto_region 29 with fail
      clear hlen
      go_wp2_with fail
      refine (acc16 tb b1 _ HT.out.c4).mono ?_
      rintro e w' ⟨rfl, hw⟩
      have hw := hw.symm
      subst hw
      go_wp2
      go_loopw [16, 21] (fun d i wx => ∃ k c : Nat, k ≤ bn ∧ i = .int .i64 k ∧ d = .int .i64 c ∧ c = cnt (fun j => (B j).name) bn k ∧ Below w.heap.size w wx ∧ Tal 0 wx tb lb b1 gb tok mem (foldL (fun i => (L i).name) (fun i => (L i).agg) ln) (foldL (fun i => (B i).name) (fun i => (B i).agg) bn) (foldL (fun i => (G i).token) (fun i => (G i).agg) gn) qa qc rn (fun i => (R i).c)) (fun _ i _ => bn - (intOf i).toNat)
      case atStart => exact ⟨0, 0, Nat.zero_le _, rfl, rfl, rfl, HB.out, HT.out⟩
      case round =>
        clear HT HB
        obtain ⟨k, c, hk, rfl, rfl, hc, hb, ht⟩ := hrel
        have HB := hide hb
        have HT := hide ht
        have HC := hide hc
        have cb : c ≤ 4096 := by have := cnt_le (fun j => (B j).name) bn k; omega
        clear hb ht hc
        by_cases hlt : k < bn
        · go_wp2_with fail
          refine (laterBudget ba bn bc B k _ (IN.out.b.below HB.out) (by omega) hlt).mono ?_
          rintro e w6 ⟨rfl, hb6⟩
          have ht := HT.out.grow hb6
          have hb := gr_below HB.out hb6
          clear HT HB hb6
          have HT := hide ht
          have HB := hide hb
          clear ht hb
          cases g : laterB (fun j => (B j).name) bn k
          · have hidx := fun w => run_index_at (P := Try.prog) (c := bc) Try.underlying25 size58 IN.out.b.pl hlt w
            have i0 : w.cell? ⟨blk ba, ofs ba + k * 3, none⟩ = some (.string (B k).name) := IN.out.b.c k hlt 0 (by omega)
            have i0 := cell_below HB.out i0 (IN.out.b.lt k hlt (by omega))
            have i1 : w.cell? ⟨blk ba, ofs ba + k * 3 + 1, none⟩ = some (.int .u64 (B k).units) := IN.out.b.c k hlt 1 (by omega)
            have i1 := cell_below HB.out i1 (IN.out.b.lt k hlt (by omega))
            have i2 : w.cell? ⟨blk ba, ofs ba + k * 3 + 2, none⟩ = some (.int .u64 (B k).granted) := IN.out.b.c k hlt 2 (by omega)
            have i2 := cell_below HB.out i2 (IN.out.b.lt k hlt (by omega))
            have hlook : (Instr.lookup 52 (.map (some b1)) (.string (B k).name) true).run Try.prog w6 = .ok (.tuple #[.agg #[.string (B k).name, .int .u64 (B k).units, .int .u64 0], .bool true]) w6 := run_look encS Try.underlying52 Try.underlying9 HT.out.b (look_last hlt g)
            have HC2 := hide ((congrArg (· + 1) HC.out).trans (cnt_last g).symm)
            clear g HC
            obtain ⟨W, hW⟩ : ∃ W, W = w6.alloc (.cells #[.string (B k).name, .int .u64 (B k).units, .int .u64 0] 56) := ⟨_, rfl⟩
            have gW : Below w6.heap.size w6 W := by rw [hW]; exact below1 _ _
            go_upto_region 37 with fail
            rw [← hW]
            have y0 : W.cell? ⟨w6.heap.size, 0, none⟩ = some (.string (B k).name) := by rw [hW]; simp
            have y1 : W.cell? ⟨w6.heap.size, 1, none⟩ = some (.int .u64 (B k).units) := by rw [hW]; simp
            have y2 : W.cell? ⟨w6.heap.size, 2, none⟩ = some (.int .u64 0) := by rw [hW]; simp
            have i0 := cell_below gW i0 (lt_of_cell i0)
            have i1 := cell_below gW i1 (lt_of_cell i1)
            have i2 := cell_below gW i2 (lt_of_cell i2)
            have HTW := hide (HT.out.grow gW)
            have HBW := hide (gr_below HB.out gW)
            clear hW gW HT HB hlook
            go_quiet (fail)
            go_wp2
            go_roundw
            case rel => exact ⟨k + 1, c + 1, by omega, by go_num, by go_num, HC2.out, drewN_below HBW.out _, HTW.out.keep (fun _ _ _ => rfl)⟩
            case measure => simp [intOf]; omega
          · have HC2 := hide (HC.out.trans (cnt_later g).symm)
            clear g HC
            go_wp2
            go_roundw
            case rel => exact ⟨k + 1, c, by omega, by go_num, rfl, HC2.out, HB.out, HT.out⟩
            case measure => simp [intOf]; omega
        · obtain rfl : bn = k := by omega
          have hlen := run_mlen (P := Try.prog) Try.underlying52 HT.out.b ((len_fold _ _ _).trans HC.out.symm)
          clear hlt hk HC cb
          go_upto_region 41 with fail
          clear hlen
          go_wp2_with fail
          refine (acc18 tb gb _ HT.out.c5).mono ?_
          rintro e w' ⟨rfl, hw⟩
          have hw := hw.symm
          subst hw
          go_wp2
          go_loopw [16, 25] (fun d i wx => ∃ k c : Nat, k ≤ gn ∧ i = .int .i64 k ∧ d = .int .i64 c ∧ c = cnt (fun j => (G j).token) gn k ∧ Below w.heap.size w wx ∧ Tal 0 wx tb lb b1 gb tok mem (foldL (fun i => (L i).name) (fun i => (L i).agg) ln) (foldL (fun i => (B i).name) (fun i => (B i).agg) bn) (foldL (fun i => (G i).token) (fun i => (G i).agg) gn) qa qc rn (fun i => (R i).c)) (fun _ i _ => gn - (intOf i).toNat)
          case atStart => exact ⟨0, 0, Nat.zero_le _, rfl, rfl, rfl, HB.out, HT.out⟩
          case round =>
            clear HT HB
            obtain ⟨k, c, hk, rfl, rfl, hc, hb, ht⟩ := hrel
            have HB := hide hb
            have HT := hide ht
            have HC := hide hc
            have cb : c ≤ 4096 := by have := cnt_le (fun j => (G j).token) gn k; omega
            clear hb ht hc
            by_cases hlt : k < gn
            · go_wp2_with fail
              refine (laterGrant ga gn gc G k _ (IN.out.g.below HB.out) (by omega) hlt).mono ?_
              rintro e w6 ⟨rfl, hb6⟩
              have ht := HT.out.grow hb6
              have hb := gr_below HB.out hb6
              clear HT HB hb6
              have HT := hide ht
              have HB := hide hb
              clear ht hb
              cases g : laterB (fun j => (G j).token) gn k
              · have hidx := fun w => run_index_at (P := Try.prog) (c := gc) Try.underlying26 size66 IN.out.g.pl hlt w
                have i0 : w.cell? ⟨blk ga, ofs ga + k * 7, none⟩ = some (.string (G k).budget) := IN.out.g.c k hlt 0 (by omega)
                have i0 := cell_below HB.out i0 (IN.out.g.lt k hlt (by omega))
                have i1 : w.cell? ⟨blk ga, ofs ga + k * 7 + 1, none⟩ = some (.string (G k).holder) := IN.out.g.c k hlt 1 (by omega)
                have i1 := cell_below HB.out i1 (IN.out.g.lt k hlt (by omega))
                have i2 : w.cell? ⟨blk ga, ofs ga + k * 7 + 2, none⟩ = some (.int .u64 (G k).token) := IN.out.g.c k hlt 2 (by omega)
                have i2 := cell_below HB.out i2 (IN.out.g.lt k hlt (by omega))
                have i3 : w.cell? ⟨blk ga, ofs ga + k * 7 + 3, none⟩ = some (.int .u64 (G k).units) := IN.out.g.c k hlt 3 (by omega)
                have i3 := cell_below HB.out i3 (IN.out.g.lt k hlt (by omega))
                have i4 : w.cell? ⟨blk ga, ofs ga + k * 7 + 4, none⟩ = some (.int .i64 (G k).ttl) := IN.out.g.c k hlt 4 (by omega)
                have i4 := cell_below HB.out i4 (IN.out.g.lt k hlt (by omega))
                have i5 : w.cell? ⟨blk ga, ofs ga + k * 7 + 5, none⟩ = some (.int .i64 (G k).rem) := IN.out.g.c k hlt 5 (by omega)
                have i5 := cell_below HB.out i5 (IN.out.g.lt k hlt (by omega))
                have i6 : w.cell? ⟨blk ga, ofs ga + k * 7 + 6, none⟩ = some (.string (G k).key) := IN.out.g.c k hlt 6 (by omega)
                have i6 := cell_below HB.out i6 (IN.out.g.lt k hlt (by omega))
                have hlook : (Instr.lookup 59 (.map (some gb)) (.int .u64 (G k).token) true).run Try.prog w6 = .ok (.tuple #[.agg #[.string (G k).budget, .string (G k).holder, .int .u64 (G k).token, .int .u64 (G k).units, .int .i64 (G k).ttl, .int .i64 (G k).rem, .string (G k).key], .bool true]) w6 := run_look encI Try.underlying59 Try.underlying23 HT.out.g (look_last hlt g)
                have HC2 := hide ((congrArg (· + 1) HC.out).trans (cnt_last g).symm)
                clear g HC
                obtain ⟨W, hW⟩ : ∃ W, W = w6.alloc (.cells #[.string (G k).budget, .string (G k).holder, .int .u64 (G k).token, .int .u64 (G k).units, .int .i64 (G k).ttl, .int .i64 (G k).rem, .string (G k).key] 63) := ⟨_, rfl⟩
                have gW : Below w6.heap.size w6 W := by rw [hW]; exact below1 _ _
                go_upto_region 49 with fail
                rw [← hW]
                have y0 : W.cell? ⟨w6.heap.size, 0, none⟩ = some (.string (G k).budget) := by rw [hW]; simp
                have y1 : W.cell? ⟨w6.heap.size, 1, none⟩ = some (.string (G k).holder) := by rw [hW]; simp
                have y2 : W.cell? ⟨w6.heap.size, 2, none⟩ = some (.int .u64 (G k).token) := by rw [hW]; simp
                have y3 : W.cell? ⟨w6.heap.size, 3, none⟩ = some (.int .u64 (G k).units) := by rw [hW]; simp
                have y4 : W.cell? ⟨w6.heap.size, 4, none⟩ = some (.int .i64 (G k).ttl) := by rw [hW]; simp
                have y5 : W.cell? ⟨w6.heap.size, 5, none⟩ = some (.int .i64 (G k).rem) := by rw [hW]; simp
                have y6 : W.cell? ⟨w6.heap.size, 6, none⟩ = some (.string (G k).key) := by rw [hW]; simp
                have i0 := cell_below gW i0 (lt_of_cell i0)
                have i1 := cell_below gW i1 (lt_of_cell i1)
                have i2 := cell_below gW i2 (lt_of_cell i2)
                have i3 := cell_below gW i3 (lt_of_cell i3)
                have i4 := cell_below gW i4 (lt_of_cell i4)
                have i5 := cell_below gW i5 (lt_of_cell i5)
                have i6 := cell_below gW i6 (lt_of_cell i6)
                have HTW := hide (HT.out.grow gW)
                have HBW := hide (gr_below HB.out gW)
                clear hW gW HT HB hlook
                go_region_held3 (fun w' => w'.cell? ⟨w6.heap.size, 0, none⟩ = some (.string (G k).budget) ∧ w'.cell? ⟨w6.heap.size, 1, none⟩ = some (.string (G k).holder) ∧ w'.cell? ⟨w6.heap.size, 2, none⟩ = some (.int .u64 (G k).token) ∧ w'.cell? ⟨w6.heap.size, 3, none⟩ = some (.int .u64 (G k).units) ∧ w'.cell? ⟨w6.heap.size, 4, none⟩ = some (.int .i64 (G k).ttl) ∧ w'.cell? ⟨w6.heap.size, 5, none⟩ = some (.int .i64 (G k).rem) ∧ w'.cell? ⟨w6.heap.size, 6, none⟩ = some (.string (G k).key) ∧ w'.cell? ⟨blk ga, ofs ga + k * 7, none⟩ = some (.string (G k).budget) ∧ w'.cell? ⟨blk ga, ofs ga + k * 7 + 1, none⟩ = some (.string (G k).holder) ∧ w'.cell? ⟨blk ga, ofs ga + k * 7 + 2, none⟩ = some (.int .u64 (G k).token) ∧ w'.cell? ⟨blk ga, ofs ga + k * 7 + 3, none⟩ = some (.int .u64 (G k).units) ∧ w'.cell? ⟨blk ga, ofs ga + k * 7 + 4, none⟩ = some (.int .i64 (G k).ttl) ∧ w'.cell? ⟨blk ga, ofs ga + k * 7 + 5, none⟩ = some (.int .i64 (G k).rem) ∧ w'.cell? ⟨blk ga, ofs ga + k * 7 + 6, none⟩ = some (.string (G k).key)) (first | go_keep | exact GS.below (b0 := w6.heap.size) (b := blk ga) (o := ofs ga + k * 7) (r := G k) (by assumption) (by assumption))
                  (first | (go_at_call 20; refine (grantIs (G k) _).mono ?_; rintro e w7 ⟨rfl, hb7⟩))
                rename_i hh
                clear hh
                have ht := HTW.out.drew.grow hb7
                have hb := gr_below (gr_drew HBW.out) hb7
                clear HTW HBW
                have HT := hide ht
                have HB := hide hb
                clear ht hb hb7 i0 i1 i2 i3 i4 i5 i6 y0 y1 y2 y3 y4 y5 y6
                go_wp2
                go_roundw
                case rel => exact ⟨k + 1, c + 1, by omega, by go_num, by go_num, HC2.out, HB.out, HT.out⟩
                case measure => simp [intOf]; omega
              · have HC2 := hide (HC.out.trans (cnt_later g).symm)
                clear g HC
                go_wp2
                go_roundw
                case rel => exact ⟨k + 1, c, by omega, by go_num, rfl, HC2.out, HB.out, HT.out⟩
                case measure => simp [intOf]; omega
            · obtain rfl : gn = k := by omega
              have hlen := run_mlen (P := Try.prog) Try.underlying59 HT.out.g ((len_fold _ _ _).trans HC.out.symm)
              clear hlt hk HC cb
              go_wp2
              go_ret
              exact ⟨rfl, HB.out⟩
end Go.Proofs.Qxb6628443a
