import Derived.Test.Qxb6628443aW7b
namespace Go.Proofs.Qxb6628443a
open Go.RowKit

set_option maxRecDepth 100000 in
set_option maxHeartbeats 8000000 in
theorem zzSnap (la : Option Addr) (ln lc : Nat) (L : Nat → LI) (tok : Int) (ra : Option Addr) (rn rc : Nat) (R : Nat → RI) (mem : Int) (ba : Option Addr) (bn bc : Nat) (B : Nat → BI) (ga : Option Addr) (gn gc : Nat) (G : Nat → GI) (w : World) (inp : Inp w la ln L ra rn R ba bn B ga gn G)
    (nl : la = none → ln = 0) (nr : ra = none → rn = 0) (nb : ba = none → bn = 0) (ng : ga = none → gn = 0) (bl : ln ≤ 4096) (br : rn ≤ 4096) (bb : bn ≤ 4096) (bg : gn ≤ 4096) :
    Calls Try.prog 7 #[.slice la ln lc, .int .u64 tok, .slice ra rn rc, .int .i64 mem, .slice ba bn bc, .slice ga gn gc] w (SnapRet w la ln L tok ra rn R mem ba bn B ga gn G) := by
  have IN := hide inp
  clear inp
  have NL := hide nl
  have NR := hide nr
  have NB := hide nb
  have NG := hide ng
  clear nl nr nb ng
  go_enter Try.func7, Try.ntmps7
  have hne := fun w => run_neq_slice_nil_any (P := Try.prog) w 22 50 la ln lc 0 0 Try.underlying22
  go_upto_if 23 with fail
  clear hne
  go_cut [] from 14 to 186 (fun wc => ∃ lv, ∃ l1, SAt w wc lv tok (.slice none 0 0) mem (.slice none 0 0) (.slice none 0 0) ∧ RowOK w wc la 6 ln (fun i => (L i).c) l1 lv)
  case first =>
    obtain ⟨w0, hw0⟩ : ∃ w0, w0 = ((w.alloc (.cells #[.slice none 0 0, .int .u64 0, .slice none 0 0, .int .i64 0, .slice none 0 0, .slice none 0 0] 35)).alloc (.cells #[.slice none 0 0, .int .u64 tok, .slice none 0 0, .int .i64 mem, .slice none 0 0, .slice none 0 0] 35)) := ⟨_, rfl⟩
    rw [← hw0]
    have HS : Hid (SAt w w0 (.slice none 0 0) tok (.slice none 0 0) mem (.slice none 0 0) (.slice none 0 0)) := by
      subst hw0
      exact ⟨below2 w _ _, by simp, by simp, by simp, by simp, by simp, by simp, fun j => by simp, fun j hj => ⟨_, by rw [World.cell?_alloc_past _ _ _ (by simp), World.cell?_alloc_at _ _ _ _ rfl]; exact Array.getElem?_eq_getElem (by simpa using hj)⟩, fun j => by rw [World.frozen?_alloc_past _ _ _ (by simp), World.frozen?_alloc_at _ _ _ _ rfl], by simp⟩
    clear hw0
    by_cases hz : la.isSome = true
    · have hz1 : la.isNone = false := by cases la; cases hz; rfl
      have hz2 : (!la.isNone) = true := by rw [hz1]; rfl
      have hmk := make47 ln (by omega) w0
      obtain ⟨qa, hqa⟩ : ∃ qa, qa = some (⟨w0.heap.size, 0, none⟩ : Addr) := ⟨_, rfl⟩
      rw [← hqa] at hmk
      have HG := hide hqa
      clear hqa
      have x0 := HS.out.c0
      have xf := HS.out.fs 0
      have up := HS.out.up
      have up1 : w.heap.size + 1 < w0.heap.size := by omega
      have une : ¬ w.heap.size + 1 = w0.heap.size := by omega
      have x0' := (World.cell?_alloc_past (w := w0) (.cells (madeCells #[.string ⟨#[]⟩, .string ⟨#[]⟩, .int .u64 0, .int .i64 0, .int .i64 0, .string ⟨#[]⟩] (ln * 6)) 47) _ _ up1).trans x0
      have xf' := (World.frozen?_alloc_past (w := w0) (.cells (madeCells #[.string ⟨#[]⟩, .string ⟨#[]⟩, .int .u64 0, .int .i64 0, .int .i64 0, .string ⟨#[]⟩] (ln * 6)) 47) (w.heap.size + 1) 0 up1).trans xf
      rw [hz]
      go_wp2
      clear hmk x0 xf x0' xf'
      obtain ⟨wL, hwL⟩ : ∃ wL, wL = ((w0.setCell ⟨w.heap.size + 1, 0, none⟩ (.slice qa ln ln)).alloc (.cells (madeCells #[.string ⟨#[]⟩, .string ⟨#[]⟩, .int .u64 0, .int .i64 0, .int .i64 0, .string ⟨#[]⟩] (ln * 6)) 47)) := ⟨_, rfl⟩
      rw [← hwL]
      have HL : Hid (SAt w wL (.slice qa ln ln) tok (.slice none 0 0) mem (.slice none 0 0) (.slice none 0 0)) := by rw [hwL]; exact HS.out.put0 _ _
      have HF : Hid (Fam wL qa (ln * 6)) := by
        rw [hwL]
        exact Fam.made (w0.setCell ⟨w.heap.size + 1, 0, none⟩ (.slice qa ln ln)) qa (ln * 6) #[.string ⟨#[]⟩, .string ⟨#[]⟩, .int .u64 0, .int .i64 0, .int .i64 0, .string ⟨#[]⟩] 47 (by rw [World.size_setCell]; exact HG.out)
      have HP : Hid (Below w0.heap.size (w0.setCell ⟨w.heap.size + 1, 0, none⟩ (.slice qa ln ln)) wL) := by rw [hwL]; exact (below1 _ _).mono (by rw [World.size_setCell]; exact Nat.le_refl _)
      have lL : wL.heap.size = w0.heap.size + 1 := by rw [hwL]; simp [World.size_setCell]
      clear hwL
      go_loopw [14] (fun i wx => ∃ k : Nat, k ≤ ln ∧ i = .int .i64 k ∧ Below w0.heap.size wL wx ∧ Fam wx qa (ln * 6) ∧ UpTo wx qa 6 (fun i => (L i).c) k) (fun i _ => ln - (intOf i).toNat)
      case atStart => exact ⟨0, Nat.zero_le _, rfl, Below.refl _ _, HF.out, fun i hi => by omega⟩
      case round =>
        obtain ⟨k, hk, rfl, hb, hf, hu⟩ := hrel
        have HB := hide hb
        have HX := hide hf
        have HU := hide hu
        clear hb hf hu
        by_cases hlt : k < ln
        · have hidx := fun w => run_index_at (P := Try.prog) (c := lc) Try.underlying22 size50 IN.out.l.pl hlt w
          have hidq := fun w => run_index_at (P := Try.prog) (c := ln) (a := qa) (n := ln) Try.underlying29 size47 (fun _ => by rw [HG.out]; rfl) hlt w
          have sx := cell_below HB.out HL.out.c0 up1
          have BX := hide (HL.out.bel.trans (HB.out.mono (by omega)))
          have i0 : w.cell? ⟨blk la, ofs la + k * 6, none⟩ = some (.string (L k).name) := IN.out.l.c k hlt 0 (by omega)
          have i0 := cell_below BX.out i0 (IN.out.l.lt k hlt (by omega))
          have i1 : w.cell? ⟨blk la, ofs la + k * 6 + 1, none⟩ = some (.string (L k).holder) := IN.out.l.c k hlt 1 (by omega)
          have i1 := cell_below BX.out i1 (IN.out.l.lt k hlt (by omega))
          have i2 : w.cell? ⟨blk la, ofs la + k * 6 + 2, none⟩ = some (.int .u64 (L k).token) := IN.out.l.c k hlt 2 (by omega)
          have i2 := cell_below BX.out i2 (IN.out.l.lt k hlt (by omega))
          have i3 : w.cell? ⟨blk la, ofs la + k * 6 + 3, none⟩ = some (.int .i64 (L k).ttl) := IN.out.l.c k hlt 3 (by omega)
          have i3 := cell_below BX.out i3 (IN.out.l.lt k hlt (by omega))
          have i4 : w.cell? ⟨blk la, ofs la + k * 6 + 4, none⟩ = some (.int .i64 (L k).rem) := IN.out.l.c k hlt 4 (by omega)
          have i4 := cell_below BX.out i4 (IN.out.l.lt k hlt (by omega))
          have i5 : w.cell? ⟨blk la, ofs la + k * 6 + 5, none⟩ = some (.string (L k).key) := IN.out.l.c k hlt 5 (by omega)
          have i5 := cell_below BX.out i5 (IN.out.l.lt k hlt (by omega))
          obtain ⟨v0, d0⟩ := HX.out.is (k * 6) (mul_lt hlt (j := 0) (by omega))
          have f0 := HX.out.fr (k * 6) (mul_lt hlt (j := 0) (by omega))
          obtain ⟨v1, d1⟩ := HX.out.is (k * 6 + 1) (mul_lt hlt (j := 1) (by omega))
          have f1 := HX.out.fr (k * 6 + 1) (mul_lt hlt (j := 1) (by omega))
          obtain ⟨v2, d2⟩ := HX.out.is (k * 6 + 2) (mul_lt hlt (j := 2) (by omega))
          have f2 := HX.out.fr (k * 6 + 2) (mul_lt hlt (j := 2) (by omega))
          obtain ⟨v3, d3⟩ := HX.out.is (k * 6 + 3) (mul_lt hlt (j := 3) (by omega))
          have f3 := HX.out.fr (k * 6 + 3) (mul_lt hlt (j := 3) (by omega))
          obtain ⟨v4, d4⟩ := HX.out.is (k * 6 + 4) (mul_lt hlt (j := 4) (by omega))
          have f4 := HX.out.fr (k * 6 + 4) (mul_lt hlt (j := 4) (by omega))
          obtain ⟨v5, d5⟩ := HX.out.is (k * 6 + 5) (mul_lt hlt (j := 5) (by omega))
          have f5 := HX.out.fr (k * 6 + 5) (mul_lt hlt (j := 5) (by omega))
          simp only [← Nat.add_assoc] at d1 f1 d2 f2 d3 f3 d4 f4 d5 f5
          go_wp2
          refine wp_region_still_tail 35 (by kernel_rfl) (by kernel_rfl) ?_
          simp only [List.take_succ_cons, List.take_zero, List.drop_succ_cons, List.drop_zero]
          iterate 35 still_step
          refine wpStill_nil ?_
          rw [show ({ wr with drawn := wr.drawn + 1 } : World) = wr.drew from rfl]
          go_wp2
          go_roundw
          case rel =>
            have st := upTo_step HX.out HU.out hlt (vs := [.string (L k).name, .string (L k).holder, .int .u64 (L k).token, .int .i64 (L k).ttl, .int .i64 (L k).rem, .string (L k).key]) rfl (fun j hj => by match j, hj with | 0, _ => rfl | 1, _ => rfl | 2, _ => rfl | 3, _ => rfl | 4, _ => rfl | 5, _ => rfl)
            have hq : w0.heap.size ≤ blk qa := by rw [HG.out]; exact Nat.le_refl _
            have sb := setRow_below hq [.string (L k).name, .string (L k).holder, .int .u64 (L k).token, .int .i64 (L k).ttl, .int .i64 (L k).rem, .string (L k).key] (o := ofs qa + k * 6) HB.out
            rw [setRow6] at st sb
            exact ⟨k + 1, by omega, by go_num, sb.drew, st.1.drew, UpTo.drew st.2⟩
          case measure => simp [intOf]; omega
        · obtain rfl : ln = k := by omega
          go_wp2_with fail
          go_meet
          have hsz := HB.out.size
          have HQ : Below (w0.setCell ⟨w.heap.size + 1, 0, none⟩ (.slice qa ln ln)).heap.size (w0.setCell ⟨w.heap.size + 1, 0, none⟩ (.slice qa ln ln)) wr := by rw [World.size_setCell]; exact HP.out.trans HB.out
          exact ⟨.slice qa ln ln, w0.heap.size, HL.out.below HB.out up, RowOK.new HG.out up (by omega) HX.out HU.out hz1⟩
    · have h0 : ln = 0 := NL.out (by cases h : la with | none => rfl | some _ => rw [h] at hz; exact absurd rfl hz)
      have hz : la.isSome = false := by simpa using hz
      have hz1 : la.isNone = true := by cases la; rfl; cases hz
      have hz2 : (!la.isNone) = false := by rw [hz1]; rfl
      rw [hz]
      go_wp2_with fail
      go_meet
      exact ⟨.slice none 0 0, w.heap.size + 2, HS.out, RowOK.none h0 hz1⟩
  case rest =>
    obtain ⟨lv, l1, hs, q0⟩ := hcut
    have HS := hide hs
    have Q0 := hide q0
    clear hs q0
    have hne := fun w => run_neq_slice_nil_any (P := Try.prog) w 24 71 ra rn rc 0 0 Try.underlying24
    go_upto_if 70 with fail
    clear hne
    go_cut [] from 14 to 186 (fun wc => ∃ lv rv, ∃ l1 l2, SAt w wc lv tok rv mem (.slice none 0 0) (.slice none 0 0) ∧ RowOK w wc la 6 ln (fun i => (L i).c) l1 lv ∧ RowOK w wc ra 3 rn (fun i => (R i).c) l2 rv)
    case first =>
      by_cases hz : ra.isSome = true
      · have hz1 : ra.isNone = false := by cases ra; cases hz; rfl
        have hz2 : (!ra.isNone) = true := by rw [hz1]; rfl
        have hmk := make69 rn (by omega) wc
        obtain ⟨qa, hqa⟩ : ∃ qa, qa = some (⟨wc.heap.size, 0, none⟩ : Addr) := ⟨_, rfl⟩
        rw [← hqa] at hmk
        have HG := hide hqa
        clear hqa
        have x2 := HS.out.c2
        have xf := HS.out.fs 2
        have up := HS.out.up
        have up1 : w.heap.size + 1 < wc.heap.size := by omega
        have une : ¬ w.heap.size + 1 = wc.heap.size := by omega
        have x2' := (World.cell?_alloc_past (w := wc) (.cells (madeCells #[.int .u64 0, .string ⟨#[]⟩, .int .i64 0] (rn * 3)) 69) _ _ up1).trans x2
        have xf' := (World.frozen?_alloc_past (w := wc) (.cells (madeCells #[.int .u64 0, .string ⟨#[]⟩, .int .i64 0] (rn * 3)) 69) (w.heap.size + 1) 2 up1).trans xf
        rw [hz]
        go_wp2
        clear hmk x2 xf x2' xf'
        obtain ⟨wL, hwL⟩ : ∃ wL, wL = ((wc.setCell ⟨w.heap.size + 1, 2, none⟩ (.slice qa rn rn)).alloc (.cells (madeCells #[.int .u64 0, .string ⟨#[]⟩, .int .i64 0] (rn * 3)) 69)) := ⟨_, rfl⟩
        rw [← hwL]
        have HL : Hid (SAt w wL lv tok (.slice qa rn rn) mem (.slice none 0 0) (.slice none 0 0)) := by rw [hwL]; exact HS.out.put2 _ _
        have HF : Hid (Fam wL qa (rn * 3)) := by
          rw [hwL]
          exact Fam.made (wc.setCell ⟨w.heap.size + 1, 2, none⟩ (.slice qa rn rn)) qa (rn * 3) #[.int .u64 0, .string ⟨#[]⟩, .int .i64 0] 69 (by rw [World.size_setCell]; exact HG.out)
        have HP : Hid (Below wc.heap.size (wc.setCell ⟨w.heap.size + 1, 2, none⟩ (.slice qa rn rn)) wL) := by rw [hwL]; exact (below1 _ _).mono (by rw [World.size_setCell]; exact Nat.le_refl _)
        have lL : wL.heap.size = wc.heap.size + 1 := by rw [hwL]; simp [World.size_setCell]
        clear hwL
        go_loopw [15] (fun i wx => ∃ k : Nat, k ≤ rn ∧ i = .int .i64 k ∧ Below wc.heap.size wL wx ∧ Fam wx qa (rn * 3) ∧ UpTo wx qa 3 (fun i => (R i).c) k) (fun i _ => rn - (intOf i).toNat)
        case atStart => exact ⟨0, Nat.zero_le _, rfl, Below.refl _ _, HF.out, fun i hi => by omega⟩
        case round =>
          obtain ⟨k, hk, rfl, hb, hf, hu⟩ := hrel
          have HB := hide hb
          have HX := hide hf
          have HU := hide hu
          clear hb hf hu
          by_cases hlt : k < rn
          · have hidx := fun w => run_index_at (P := Try.prog) (c := rc) Try.underlying24 size71 IN.out.r.pl hlt w
            have hidq := fun w => run_index_at (P := Try.prog) (c := rn) (a := qa) (n := rn) Try.underlying30 size69 (fun _ => by rw [HG.out]; rfl) hlt w
            have sx := cell_below HB.out HL.out.c2 up1
            have BX := hide (HL.out.bel.trans (HB.out.mono (by omega)))
            have i0 : w.cell? ⟨blk ra, ofs ra + k * 3, none⟩ = some (.int .u64 (R k).token) := IN.out.r.c k hlt 0 (by omega)
            have i0 := cell_below BX.out i0 (IN.out.r.lt k hlt (by omega))
            have i1 : w.cell? ⟨blk ra, ofs ra + k * 3 + 1, none⟩ = some (.string (R k).key) := IN.out.r.c k hlt 1 (by omega)
            have i1 := cell_below BX.out i1 (IN.out.r.lt k hlt (by omega))
            have i2 : w.cell? ⟨blk ra, ofs ra + k * 3 + 2, none⟩ = some (.int .i64 (R k).at_) := IN.out.r.c k hlt 2 (by omega)
            have i2 := cell_below BX.out i2 (IN.out.r.lt k hlt (by omega))
            obtain ⟨v0, d0⟩ := HX.out.is (k * 3) (mul_lt hlt (j := 0) (by omega))
            have f0 := HX.out.fr (k * 3) (mul_lt hlt (j := 0) (by omega))
            obtain ⟨v1, d1⟩ := HX.out.is (k * 3 + 1) (mul_lt hlt (j := 1) (by omega))
            have f1 := HX.out.fr (k * 3 + 1) (mul_lt hlt (j := 1) (by omega))
            obtain ⟨v2, d2⟩ := HX.out.is (k * 3 + 2) (mul_lt hlt (j := 2) (by omega))
            have f2 := HX.out.fr (k * 3 + 2) (mul_lt hlt (j := 2) (by omega))
            simp only [← Nat.add_assoc] at d1 f1 d2 f2
            go_wp2
            refine wp_region_still_tail 20 (by kernel_rfl) (by kernel_rfl) ?_
            simp only [List.take_succ_cons, List.take_zero, List.drop_succ_cons, List.drop_zero]
            iterate 20 still_step
            refine wpStill_nil ?_
            rw [show ({ wr with drawn := wr.drawn + 1 } : World) = wr.drew from rfl]
            go_wp2
            go_roundw
            case rel =>
              have st := upTo_step HX.out HU.out hlt (vs := [.int .u64 (R k).token, .string (R k).key, .int .i64 (R k).at_]) rfl (fun j hj => by match j, hj with | 0, _ => rfl | 1, _ => rfl | 2, _ => rfl)
              have hq : wc.heap.size ≤ blk qa := by rw [HG.out]; exact Nat.le_refl _
              have sb := setRow_below hq [.int .u64 (R k).token, .string (R k).key, .int .i64 (R k).at_] (o := ofs qa + k * 3) HB.out
              rw [setRow3] at st sb
              exact ⟨k + 1, by omega, by go_num, sb.drew, st.1.drew, UpTo.drew st.2⟩
            case measure => simp [intOf]; omega
          · obtain rfl : rn = k := by omega
            go_wp2_with fail
            go_meet
            have hsz := HB.out.size
            have HQ : Below (wc.setCell ⟨w.heap.size + 1, 2, none⟩ (.slice qa rn rn)).heap.size (wc.setCell ⟨w.heap.size + 1, 2, none⟩ (.slice qa rn rn)) wr := by rw [World.size_setCell]; exact HP.out.trans HB.out
            exact ⟨lv, .slice qa rn rn, l1, wc.heap.size, HL.out.below HB.out up, (Q0.out.set _ _).below HQ, RowOK.new HG.out up (by omega) HX.out HU.out hz1⟩
      · have h0 : rn = 0 := NR.out (by cases h : ra with | none => rfl | some _ => rw [h] at hz; exact absurd rfl hz)
        have hz : ra.isSome = false := by simpa using hz
        have hz1 : ra.isNone = true := by cases ra; rfl; cases hz
        have hz2 : (!ra.isNone) = false := by rw [hz1]; rfl
        rw [hz]
        go_wp2_with fail
        go_meet
        exact ⟨lv, .slice none 0 0, l1, w.heap.size + 2, HS.out, Q0.out, RowOK.none h0 hz1⟩
    case rest =>
      clear HS Q0
      obtain ⟨lv, rv, l1, l2, hs, q0, q1⟩ := hcut
      have HS := hide hs
      have Q0 := hide q0
      have Q1 := hide q1
      clear hs q0 q1
      refine ‹∀ (a : Act) (w_1 : World), Code.wp Try.prog _ (bodyPost _ _ _) a w_1 → _› _ _ ?_
      exact snapB la ln lc L tok ra rn rc R mem ba bn bc B ga gn gc G w IN.out NL.out NR.out NB.out NG.out bl br bb bg wc lv rv l1 l2 HS Q0 Q1 _ _ _ _ _ _ _ _ _ _ _ _ _ _ _ _ _ _ _ _ _ _ _ _ _ _ _ _ _ _ _ _ _ _ _ _ _ _ _ _ _ _ _ _ _ _ _ _ _ _ _ _ _ _ _ _ _ _ _ _ _ _ _ _ _ _ _ _ _ _ _ _ _ _ _ _ _ _ _ _ _ _ _ _ _ _ _ _ _ _ _ _ _ _ _ _ _ _ _ _ _ _ _ _ _ _ _ _ _ _ _ _ _ _ _ _ _ _ _ _ _ _ _ _ _ _ _ _ _ _ _ _ _ _ _ _ _ _ _ _ _ _ _ _ _ _ _ _ _ _ _ _ _ _ _ _ _ _ _ _ _ _ _ _ _ _ _ _ _ _ _ _ _ rfl
end Go.Proofs.Qxb6628443a
