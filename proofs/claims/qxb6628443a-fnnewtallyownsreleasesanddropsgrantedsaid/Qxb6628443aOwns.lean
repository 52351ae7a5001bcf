import Derived.Test.Qxb6628443aW2
import Derived.Test.Qxb6628443aW3
import Derived.Test.Qxb6628443aW7
import Derived.Test.Qxb6628443aSn
import Derived.Test.Qxb6628443aOwnsB
namespace Go.Proofs.Qxb6628443a
open Go.RowKit

theorem fold_same {B B2 : Nat → BI} (h : ∀ i, (B2 i).name = (B i).name ∧ (B2 i).units = (B i).units) (n : Nat) : foldL (fun i => (B2 i).name) (fun i => (B2 i).agg) n = foldL (fun i => (B i).name) (fun i => (B i).agg) n := by
  have e1 : (fun i => (B2 i).name) = (fun i => (B i).name) := funext fun i => (h i).1
  have e2 : (fun i => (B2 i).agg) = (fun i => (B i).agg) := funext fun i => by simp [BI.agg, (h i).1, (h i).2]
  rw [e1, e2]

set_option maxRecDepth 100000 in
set_option maxHeartbeats 8000000 in
theorem owns (la : Option Addr) (ln lc : Nat) (L : Nat → LI) (tok : Int) (ra : Option Addr) (rn rc : Nat) (R : Nat → RI) (mem : Int) (ba : Option Addr) (bn bc : Nat) (B : Nat → BI) (ga : Option Addr) (gn gc : Nat) (G : Nat → GI) (w : World) (inp : Inp w la ln L ra rn R ba bn B ga gn G)
    (nl : la = none → ln = 0) (nr : ra = none → rn = 0) (nb : ba = none → bn = 0) (ng : ga = none → gn = 0) :
    Calls Try.prog 4 #[.slice la ln lc, .int .u64 tok, .slice ra rn rc, .int .i64 mem, .slice ba bn bc, .slice ga gn gc] w (Ret1 w (.bool true)) := by
  have IN := hide inp
  clear inp
  have NL := hide nl
  have NR := hide nr
  have NB := hide nb
  have NG := hide ng
  clear nl nr nb ng
  go_enter Try.func4, Try.ntmps4
  go_wp2_with fail
  refine (zzBytes21 la ln lc L tok ra rn rc R mem ba bn bc B ga gn gc G _ IN.out).mono ?_
  rintro e w' ⟨b, rfl, hw, hsm⟩
  have hw := hw.symm
  subst hw
  cases b
  · go_wp2
    go_ret
    exact ⟨rfl, Below.refl _ _⟩
  have SM := hide (hsm rfl)
  clear hsm
  go_wp2_with fail
  refine (zzSize la ln lc L ra rn rc R ba bn bc B ga gn gc G _ IN.out SM.out.1 SM.out.2.1 SM.out.2.2.1 SM.out.2.2.2).mono ?_
  rintro e w' ⟨n, rfl, hw⟩
  have hw := hw.symm
  subst hw
  by_cases h5 : 1048576 < n
  · go_wp2
    go_ret
    exact ⟨rfl, Below.refl _ _⟩
  by_cases c1 : 4096 < ln
  · go_wp2
    go_ret
    exact ⟨rfl, Below.refl _ _⟩
  by_cases c2 : 4096 < rn
  · go_wp2
    go_ret
    exact ⟨rfl, Below.refl _ _⟩
  by_cases c3 : 4096 < bn
  · go_wp2
    go_ret
    exact ⟨rfl, Below.refl _ _⟩
  by_cases c4 : 4096 < gn
  · go_wp2
    go_ret
    exact ⟨rfl, Below.refl _ _⟩
  have d0 : decide (1048576 < n) = false := decide_eq_false h5
  have d1 : decide ((4096 : Int) < (ln : Int)) = false := decide_eq_false (by omega)
  have d2 : decide ((4096 : Int) < (rn : Int)) = false := decide_eq_false (by omega)
  have d3 : decide ((4096 : Int) < (bn : Int)) = false := decide_eq_false (by omega)
  have d4 : decide ((4096 : Int) < (gn : Int)) = false := decide_eq_false (by omega)
  have l1 : ln ≤ 4096 := by omega
  have l2 : rn ≤ 4096 := by omega
  have l3 : bn ≤ 4096 := by omega
  have l4 : gn ≤ 4096 := by omega
  clear c1 c2 c3 c4 h5
  go_wp2_with fail
  refine (zzSnap la ln lc L tok ra rn rc R mem ba bn bc B ga gn gc G _ IN.out NL.out NR.out NB.out NG.out l1 l2 l3 l4).mono ?_
  intro e w1 hs
  obtain ⟨xl, xr, xb, xg, rfl, hb, hs⟩ := hs.at
  have S1 := hide hs
  have E1 := hide hb
  clear hs hb d0 d1 d2 d3 d4
  go_wp2_with fail
  refine (zzSnap la ln lc L tok ra rn rc R mem ba bn bc B ga gn gc G _ (IN.out.below (gr_alloc E1.out _)) NL.out NR.out NB.out NG.out l1 l2 l3 l4).mono ?_
  intro e w2 hs
  obtain ⟨yl, yr, yb, yg, rfl, hb, hs⟩ := hs.at
  have z1 : (w1.alloc (.cells #[.slice xl ln ln, .int .u64 tok, .slice xr rn rn, .int .i64 mem, .slice xb bn bn, .slice xg gn gn] 35)).heap.size = w1.heap.size + 1 := by simp
  rw [z1] at hs
  have hx := (Box.new w1 (.slice xl ln ln) tok (.slice xr rn rn) mem (.slice xb bn bn) (.slice xg gn gn)).grow hb
  have hlt : w1.heap.size + 1 ≤ w2.heap.size := by have := hb.size; omega
  have he : Below w.heap.size w w2 := gr_below (gr_alloc E1.out _) hb
  have h1 := S1.out.grow (wr' := w2) (gr_below (below1 w1 _) hb)
  have hle : w.heap.size ≤ w1.heap.size := E1.out.size
  clear S1 E1 z1 hb
  obtain ⟨W, hW⟩ : ∃ W, W = w2.alloc (.cells #[.slice yl ln ln, .int .u64 tok, .slice yr rn rn, .int .i64 mem, .slice yb bn bn, .slice yg gn gn] 35) := ⟨_, rfl⟩
  have gW : Below w2.heap.size w2 W := by rw [hW]; exact below1 _ _
  have sW : W.heap.size = w2.heap.size + 1 := by rw [hW]; simp
  have HX : Hid (Box W w1.heap.size (.slice xl ln ln) tok (.slice xr rn rn) mem (.slice xb bn bn) (.slice xg gn gn)) := hx.grow gW
  have HY : Hid (Box W w2.heap.size (.slice yl ln ln) tok (.slice yr rn rn) mem (.slice yb bn bn) (.slice yg gn gn)) := by rw [hW]; exact Box.new w2 _ _ _ _ _ _
  have S1 : Hid (SnapAt w.heap.size w1.heap.size W ra xl ln L xr rn R xb bn B xg gn G) := h1.grow (gW.mono (by omega))
  have S2 : Hid (SnapAt (w1.heap.size + 1) w2.heap.size W ra yl ln L yr rn R yb bn B yg gn G) := hs.grow gW
  have EW : Hid (Below w.heap.size w W) := gr_below he gW
  clear hx he h1 hs
  go_wp2
  rw [← hW]
  clear hW gW
  go_loopw [15] (fun i wx => ∃ k : Nat, k ≤ bn ∧ i = .int .i64 k ∧ But bn (blk yb) W wx ∧ Fam wx yb (bn * 3) ∧ ∃ R2 : Nat → BI, (∀ i, (R2 i).name = (B i).name ∧ (R2 i).units = (B i).units) ∧ Recs wx yb 3 bn (fun i => (R2 i).c)) (fun i _ => bn - (intOf i).toNat)
  case atStart => exact ⟨0, Nat.zero_le _, rfl, But.refl _ _ _, S2.out.fb, B, fun i => ⟨rfl, rfl⟩, S2.out.b⟩
  case round =>
    obtain ⟨k, hk, rfl, hb, hf, R2, hkr, hr⟩ := hrel
    have HB := hide hb
    have HF := hide hf
    have HR := hide hr
    have HK := hide hkr
    clear hb hf hr hkr
    have hne : 0 < bn → w2.heap.size ≠ blk yb := fun h e => by have := (S2.out.ob h).2; omega
    have xc : wr.cell? ⟨w2.heap.size, 4, none⟩ = some (.slice yb bn bn) := HB.out.cell HY.out.c4 hne
    by_cases hlt' : k < bn
    · have hpos : 0 < bn := by omega
      have hidx := fun w => run_index_at (P := Try.prog) (c := bn) Try.underlying32 size56 HR.out.pl hlt' w
      have r2 : wr.cell? ⟨blk yb, ofs yb + k * 3 + 2, none⟩ = some (.int .u64 (R2 k).granted) := HR.out.c k hlt' 2 (by omega)
      have f2 := HF.out.fr (k * 3 + 2) (mul_lt hlt' (j := 2) (by omega))
      simp only [← Nat.add_assoc] at f2
      go_wp2
      refine wp_region_still_tail 12 (by kernel_rfl) (by kernel_rfl) ?_
      simp only [List.take_succ_cons, List.take_zero, List.drop_succ_cons, List.drop_zero]
      iterate 12 still_step
      refine wpStill_nil ?_
      rw [show ({ wr with drawn := wr.drawn + 1 } : World) = wr.drew from rfl]
      go_wp2
      obtain ⟨R3, e3, hr3⟩ := budGr HR.out hlt' (bits .xor .u64 IntKind.u64.max (R2 k).granted)
      go_roundw
      case rel => exact ⟨k + 1, by omega, by go_num, (HB.out.set hpos _ _).drew, (HF.out.set _ _ _).drew, R3, fun i => ⟨(e3 i).1.trans (HK.out i).1, (e3 i).2.trans (HK.out i).2⟩, hr3.drew⟩
      case measure => simp [intOf]; omega
    · obtain rfl : bn = k := by omega
      obtain ⟨w3, hw3⟩ : ∃ w3, w3 = wr := ⟨_, rfl⟩
      subst hw3
      have x1 := HX.out.but HB.out (fun h e => by have := (S2.out.ob h).1; omega)
      have y1 := HY.out.but HB.out hne
      have g1 := S1.out.grow (HB.out.below (fun h => by have := (S2.out.ob h).1; omega))
      have g2 := S2.out.put HB.out HR.out HF.out
      have ew := EW.out.trans (HB.out.below (fun h => by have := (S2.out.ob h).1; omega))
      have s3 := HB.out.size
      clear HX HY S1 S2 EW HR HF HB hk hne
      have HX := hide x1
      have HY := hide y1
      have S1 := hide g1
      have S2 := hide g2
      have EW := hide ew
      clear x1 y1 g1 g2 ew
      have k0 := HX.out.c0
      have k1 := HX.out.c1
      have k2 := HX.out.c2
      have k3 := HX.out.c3
      have k4 := HX.out.c4
      have k5 := HX.out.c5
      go_wp2_with fail
      clear xc hlt' k0 k1 k2 k3 k4 k5
      refine (newTally xl ln ln L tok xr rn rn R mem xb bn bn B xg gn gn G _ (S1.out.inp l1 l2 l3 l4) (S1.out.nil NR.out) l1 l2 l3 l4).mono ?_
      rintro e w4 ⟨tb, lb, b1, gb, qa, qc, rfl, hb4, hq, ht⟩
      have HQ := hide (hq.trans S1.out.nr)
      have x1 := HX.out.grow hb4
      have y1 := HY.out.grow hb4
      have g1 := S1.out.grow (hb4.mono (by omega))
      have g2 := S2.out.grow (hb4.mono (by omega))
      have ew := gr_below EW.out hb4
      have s4 := hb4.size
      have H1 := hide ht
      clear HX HY S1 S2 EW hb4 hq ht
      have HX := hide x1
      have S1 := hide g1
      have S2 := hide g2
      have EW := hide ew
      have k0 := y1.c0
      have k1 := y1.c1
      have k2 := y1.c2
      have k3 := y1.c3
      have k4 := y1.c4
      have k5 := y1.c5
      clear x1 y1 g1 g2 ew
      go_wp2_with fail
      clear k0 k1 k2 k3 k4 k5
      refine (newTally yl ln ln L tok yr rn rn R mem yb bn bn R2 yg gn gn G _ (S2.out.inp l1 l2 l3 l4) (S2.out.nil NR.out) l1 l2 l3 l4).mono ?_
      rintro e w5 ⟨tb', lb', b2, gb', qa', qc', rfl, hb5, hq, ht⟩
      rw [fold_same HK.out] at ht
      have h1 := H1.out.grow hb5
      have h2 := ht.low s4
      have x1 := HX.out.grow hb5
      have g1 := S1.out.grow (hb5.mono (by omega))
      have ew := gr_below EW.out hb5
      clear H1 HX S1 S2 EW hb5 hq ht
      have HM : Hid (MidB w3.heap.size w w5 w1.heap.size xr rn R xb bn B) := ⟨ew, x1.c2, x1.c4, g1.r, g1.fr, g1.b, g1.fb, fun h => by have := g1.orr h; omega, fun h => by have := g1.ob h; omega, fun h h' => by have := g1.rb h h'; omega, fun i hi => SM.out.2.1.2 i hi, fun i hi => SM.out.2.2.1.2 i hi⟩
      have H1 := hide h1
      have H2 := hide h2
      clear h1 h2 x1 g1 ew
      go_upto_if 102 with fail
      go_cut [] from 18 to 250 (fun wx => wx = w5)
      case first =>
        go_wp2_with fail
        go_meet
        exact rfl
      case rest =>
        subst hcut
        refine ‹∀ (a : Act) (w_1 : World), Code.wp Try.prog _ (bodyPost _ _ _) a w_1 → _› _ _ ?_
        exact ownsB la ln lc L tok ra rn rc R mem ba bn bc B ga gn gc G w IN.out l2 l3 _ w3.heap.size w1.heap.size xr xb tb lb b1 gb _ _ qa qc tb' lb' b2 gb' _ _ qa' qc' HM H1 H2 HQ _ _ _ _ _ _ _ _ _ _ _ _ _ _ _ _ _ _ _ _ _ _ _ _ _ _ _ _ _ _ _ _ _ _ _ _ _ _ _ _ _ _ _ _ _ _ _ _ _ _ _ _ _ _ _ _ _ _ _ _ _ _ _ _ _ _ _ _ _ _ _ _ _ _ _ _ _ _ _ _ _ _ _ _ _ _ _ _ _ _ _ _ _ _ _ _ _ _ _ _ _ _ _ _ _ _ _ _ _ _ _ _ _ _ _ _ _ _ _ _ _ _ _ _ _ _ _ _ _ _ _ _ _ _ _ _ _ _ _ _ _ _ _ _ _ _ _ _ _ _ _ _ _ _ _ _ _ _ _ _ _ _ _ _ _ _ _ _ _ _ _ _ _ _ _ _ _ _ _ _ _ _ _ _ _ _ _ _ _ _ _ _ _ _ _ _ _ _ _ _ _ _ _ _ _ _ _ _ _ _ _ _ _ _ _ _ _ _ _ _ _ _ _ _ _ _ _ _ _ _ _ _ _ _ _ _ _ _ _ _ _ _ _ rfl
end Go.Proofs.Qxb6628443a
