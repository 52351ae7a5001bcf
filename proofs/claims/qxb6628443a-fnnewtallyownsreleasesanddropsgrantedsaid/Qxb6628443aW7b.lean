import Derived.Test.Qxb6628443aSnap
namespace Go.Proofs.Qxb6628443a
open Go.RowKit

set_option maxRecDepth 100000 in
set_option maxHeartbeats 8000000 in
theorem snapB (la : Option Addr) (ln lc : Nat) (L : Nat → LI) (tok : Int) (ra : Option Addr) (rn rc : Nat) (R : Nat → RI) (mem : Int) (ba : Option Addr) (bn bc : Nat) (B : Nat → BI) (ga : Option Addr) (gn gc : Nat) (G : Nat → GI) (w : World) (inp : Inp w la ln L ra rn R ba bn B ga gn G)
    (_nl : la = none → ln = 0) (_nr : ra = none → rn = 0) (nb : ba = none → bn = 0) (ng : ga = none → gn = 0) (_bl : ln ≤ 4096) (_br : rn ≤ 4096) (bb : bn ≤ 4096) (bg : gn ≤ 4096) (wc : World) (lv rv : Value) (l1 l2 : Nat) (HS : Hid (SAt w wc lv tok rv mem (.slice none 0 0) (.slice none 0 0))) (Q0 : Hid (RowOK w wc la 6 ln (fun i => (L i).c) l1 lv)) (Q1 : Hid (RowOK w wc ra 3 rn (fun i => (R i).c) l2 rv))
    (t14 t15 t16 t17 t18 t19 t20 t21 t22 t23 t24 t25 t26 t27 t28 t29 t30 t31 t32 t33 t34 t35 t36 t37 t38 t39 t40 t41 t42 t43 t44 t45 t46 t47 t48 t49 t50 t51 t52 t53 t54 t55 t56 t57 t58 t59 t60 t61 t62 t63 t64 t65 t66 t67 t68 t69 t70 t71 t72 t73 t74 t75 t76 t77 t78 t79 t80 t81 t82 t83 t84 t85 t86 t87 t88 t89 t90 t91 t92 t93 t94 t95 t96 t97 t98 t99 t100 t101 t102 t103 t104 t105 t106 t107 t108 t109 t110 t111 t112 t113 t114 t115 t116 t117 t118 t119 t120 t121 t122 t123 t124 t125 t126 t127 t128 t129 t130 t131 t132 t133 t134 t135 t136 t137 t138 t139 t140 t141 t142 t143 t144 t145 t146 t147 t148 t149 t150 t151 t152 t153 t154 t155 t156 t157 t158 t159 t160 t161 t162 t163 t164 t165 t166 t167 t168 t169 t170 t171 t172 t173 t174 t175 t176 t177 t178 t179 t180 t181 t182 t183 t184 t185 : Value) : ∀ c, tl 6 Try.f7.body = some c → c.wp Try.prog (bodyPost Try.prog Try.f7 (SnapRet w la ln L tok ra rn R mem ba bn B ga gn G)) { tmps := #[.slice la ln lc, .int .u64 tok, .slice ra rn rc, .int .i64 mem, .slice ba bn bc, .slice ga gn gc, undef, undef, undef, undef, undef, undef, .pointer (some ⟨w.heap.size, 0, none⟩), .pointer (some ⟨w.heap.size + 1, 0, none⟩), t14, t15, t16, t17, t18, t19, t20, t21, t22, t23, t24, t25, t26, t27, t28, t29, t30, t31, t32, t33, t34, t35, t36, t37, t38, t39, t40, t41, t42, t43, t44, t45, t46, t47, t48, t49, t50, t51, t52, t53, t54, t55, t56, t57, t58, t59, t60, t61, t62, t63, t64, t65, t66, t67, t68, t69, t70, t71, t72, t73, t74, t75, t76, t77, t78, t79, t80, t81, t82, t83, t84, t85, t86, t87, t88, t89, t90, t91, t92, t93, t94, t95, t96, t97, t98, t99, t100, t101, t102, t103, t104, t105, t106, t107, t108, t109, t110, t111, t112, t113, t114, t115, t116, t117, t118, t119, t120, t121, t122, t123, t124, t125, t126, t127, t128, t129, t130, t131, t132, t133, t134, t135, t136, t137, t138, t139, t140, t141, t142, t143, t144, t145, t146, t147, t148, t149, t150, t151, t152, t153, t154, t155, t156, t157, t158, t159, t160, t161, t162, t163, t164, t165, t166, t167, t168, t169, t170, t171, t172, t173, t174, t175, t176, t177, t178, t179, t180, t181, t182, t183, t184, t185], defers := [] } wc := by
  refine wp_tail rfl ?_
  have IN := hide inp
  clear inp
  have NB := hide nb
  have NG := hide ng
  clear nb ng
  have hne := fun w => run_neq_slice_nil_any (P := Try.prog) w 25 58 ba bn bc 0 0 Try.underlying25
  go_upto_if 102 with fail
  clear hne
  go_cut [] from 14 to 186 (fun wc => ∃ lv rv bv, ∃ l1 l2 l3, SAt w wc lv tok rv mem bv (.slice none 0 0) ∧ RowOK w wc la 6 ln (fun i => (L i).c) l1 lv ∧ RowOK w wc ra 3 rn (fun i => (R i).c) l2 rv ∧ RowOK w wc ba 3 bn (fun i => (B i).c) l3 bv ∧ Apart lv bv ln bn ∧ Apart rv bv rn bn)
  case first =>
    by_cases hz : ba.isSome = true
    · have hz1 : ba.isNone = false := by cases ba; cases hz; rfl
      have hz2 : (!ba.isNone) = true := by rw [hz1]; rfl
      have hmk := make56 bn (by omega) wc
      obtain ⟨qa, hqa⟩ : ∃ qa, qa = some (⟨wc.heap.size, 0, none⟩ : Addr) := ⟨_, rfl⟩
      rw [← hqa] at hmk
      have HG := hide hqa
      clear hqa
      have x4 := HS.out.c4
      have xf := HS.out.fs 4
      have up := HS.out.up
      have up1 : w.heap.size + 1 < wc.heap.size := by omega
      have une : ¬ w.heap.size + 1 = wc.heap.size := by omega
      have x4' := (World.cell?_alloc_past (w := wc) (.cells (madeCells #[.string ⟨#[]⟩, .int .u64 0, .int .u64 0] (bn * 3)) 56) _ _ up1).trans x4
      have xf' := (World.frozen?_alloc_past (w := wc) (.cells (madeCells #[.string ⟨#[]⟩, .int .u64 0, .int .u64 0] (bn * 3)) 56) (w.heap.size + 1) 4 up1).trans xf
      rw [hz]
      go_wp2
      clear hmk x4 xf x4' xf'
      obtain ⟨wL, hwL⟩ : ∃ wL, wL = ((wc.setCell ⟨w.heap.size + 1, 4, none⟩ (.slice qa bn bn)).alloc (.cells (madeCells #[.string ⟨#[]⟩, .int .u64 0, .int .u64 0] (bn * 3)) 56)) := ⟨_, rfl⟩
      rw [← hwL]
      have HL : Hid (SAt w wL lv tok rv mem (.slice qa bn bn) (.slice none 0 0)) := by rw [hwL]; exact HS.out.put4 _ _
      have HF : Hid (Fam wL qa (bn * 3)) := by
        rw [hwL]
        exact Fam.made (wc.setCell ⟨w.heap.size + 1, 4, none⟩ (.slice qa bn bn)) qa (bn * 3) #[.string ⟨#[]⟩, .int .u64 0, .int .u64 0] 56 (by rw [World.size_setCell]; exact HG.out)
      have HP : Hid (Below wc.heap.size (wc.setCell ⟨w.heap.size + 1, 4, none⟩ (.slice qa bn bn)) wL) := by rw [hwL]; exact (below1 _ _).mono (by rw [World.size_setCell]; exact Nat.le_refl _)
      have lL : wL.heap.size = wc.heap.size + 1 := by rw [hwL]; simp [World.size_setCell]
      clear hwL
      go_loopw [16] (fun i wx => ∃ k : Nat, k ≤ bn ∧ i = .int .i64 k ∧ Below wc.heap.size wL wx ∧ Fam wx qa (bn * 3) ∧ UpTo wx qa 3 (fun i => (B i).c) k) (fun i _ => bn - (intOf i).toNat)
      case atStart => exact ⟨0, Nat.zero_le _, rfl, Below.refl _ _, HF.out, fun i hi => by omega⟩
      case round =>
        obtain ⟨k, hk, rfl, hb, hf, hu⟩ := hrel
        have HB := hide hb
        have HX := hide hf
        have HU := hide hu
        clear hb hf hu
        by_cases hlt : k < bn
        · have hidx := fun w => run_index_at (P := Try.prog) (c := bc) Try.underlying25 size58 IN.out.b.pl hlt w
          have hidq := fun w => run_index_at (P := Try.prog) (c := bn) (a := qa) (n := bn) Try.underlying32 size56 (fun _ => by rw [HG.out]; rfl) hlt w
          have sx := cell_below HB.out HL.out.c4 up1
          have BX := hide (HL.out.bel.trans (HB.out.mono (by omega)))
          have i0 : w.cell? ⟨blk ba, ofs ba + k * 3, none⟩ = some (.string (B k).name) := IN.out.b.c k hlt 0 (by omega)
          have i0 := cell_below BX.out i0 (IN.out.b.lt k hlt (by omega))
          have i1 : w.cell? ⟨blk ba, ofs ba + k * 3 + 1, none⟩ = some (.int .u64 (B k).units) := IN.out.b.c k hlt 1 (by omega)
          have i1 := cell_below BX.out i1 (IN.out.b.lt k hlt (by omega))
          have i2 : w.cell? ⟨blk ba, ofs ba + k * 3 + 2, none⟩ = some (.int .u64 (B k).granted) := IN.out.b.c k hlt 2 (by omega)
          have i2 := cell_below BX.out i2 (IN.out.b.lt k hlt (by omega))
          obtain ⟨v0, d0⟩ := HX.out.is (k * 3) (mul_lt hlt (j := 0) (by omega))
          have f0 := HX.out.fr (k * 3) (mul_lt hlt (j := 0) (by omega))
          obtain ⟨v1, d1⟩ := HX.out.is (k * 3 + 1) (mul_lt hlt (j := 1) (by omega))
          have f1 := HX.out.fr (k * 3 + 1) (mul_lt hlt (j := 1) (by omega))
          obtain ⟨v2, d2⟩ := HX.out.is (k * 3 + 2) (mul_lt hlt (j := 2) (by omega))
          have f2 := HX.out.fr (k * 3 + 2) (mul_lt hlt (j := 2) (by omega))
          simp only [← Nat.add_assoc] at d1 f1 d2 f2
          go_wp2
          refine wp_region_still_tail 20 (by kernel_rfl) (by kernel_rfl) ?_
          simp only [List.take_succ_cons, List.take_zero, List.drop_succ_cons, List.drop_zero]
          iterate 20 still_step
          refine wpStill_nil ?_
          rw [show ({ wr with drawn := wr.drawn + 1 } : World) = wr.drew from rfl]
          go_wp2
          go_roundw
          case rel =>
            have st := upTo_step HX.out HU.out hlt (vs := [.string (B k).name, .int .u64 (B k).units, .int .u64 (B k).granted]) rfl (fun j hj => by match j, hj with | 0, _ => rfl | 1, _ => rfl | 2, _ => rfl)
            have hq : wc.heap.size ≤ blk qa := by rw [HG.out]; exact Nat.le_refl _
            have sb := setRow_below hq [.string (B k).name, .int .u64 (B k).units, .int .u64 (B k).granted] (o := ofs qa + k * 3) HB.out
            rw [setRow3] at st sb
            exact ⟨k + 1, by omega, by go_num, sb.drew, st.1.drew, UpTo.drew st.2⟩
          case measure => simp [intOf]; omega
        · obtain rfl : bn = k := by omega
          go_wp2_with fail
          go_meet
          have hsz := HB.out.size
          have HQ : Below (wc.setCell ⟨w.heap.size + 1, 4, none⟩ (.slice qa bn bn)).heap.size (wc.setCell ⟨w.heap.size + 1, 4, none⟩ (.slice qa bn bn)) wr := by rw [World.size_setCell]; exact HP.out.trans HB.out
          exact ⟨lv, rv, .slice qa bn bn, l1, l2, wc.heap.size, HL.out.below HB.out up, (Q0.out.set _ _).below HQ, (Q1.out.set _ _).below HQ, RowOK.new HG.out up (by omega) HX.out HU.out hz1, Apart.new Q0.out HG.out, Apart.new Q1.out HG.out⟩
    · have h0 : bn = 0 := NB.out (by cases h : ba with | none => rfl | some _ => rw [h] at hz; exact absurd rfl hz)
      have hz : ba.isSome = false := by simpa using hz
      have hz1 : ba.isNone = true := by cases ba; rfl; cases hz
      have hz2 : (!ba.isNone) = false := by rw [hz1]; rfl
      rw [hz]
      go_wp2_with fail
      go_meet
      exact ⟨lv, rv, .slice none 0 0, l1, l2, w.heap.size + 2, HS.out, Q0.out, Q1.out, RowOK.none h0 hz1, Apart.nil h0, Apart.nil h0⟩
  case rest =>
    clear HS Q0 Q1
    obtain ⟨lv, rv, bv, l1, l2, l3, hs, q0, q1, q2, xr⟩ := hcut
    have HS := hide hs
    have Q0 := hide q0
    have Q1 := hide q1
    have Q2 := hide q2
    have XR := hide xr
    clear hs q0 q1 q2 xr
    have hne := fun w => run_neq_slice_nil_any (P := Try.prog) w 26 66 ga gn gc 0 0 Try.underlying26
    go_upto_if 134 with fail
    clear hne
    go_cut [] from 14 to 186 (fun wc => ∃ lv rv bv gv, ∃ l1 l2 l3 l4, SAt w wc lv tok rv mem bv gv ∧ RowOK w wc la 6 ln (fun i => (L i).c) l1 lv ∧ RowOK w wc ra 3 rn (fun i => (R i).c) l2 rv ∧ RowOK w wc ba 3 bn (fun i => (B i).c) l3 bv ∧ RowOK w wc ga 7 gn (fun i => (G i).c) l4 gv ∧ Apart lv bv ln bn ∧ Apart rv bv rn bn ∧ Apart bv gv bn gn)
    case first =>
      by_cases hz : ga.isSome = true
      · have hz1 : ga.isNone = false := by cases ga; cases hz; rfl
        have hz2 : (!ga.isNone) = true := by rw [hz1]; rfl
        have hmk := make63 gn (by omega) wc
        obtain ⟨qa, hqa⟩ : ∃ qa, qa = some (⟨wc.heap.size, 0, none⟩ : Addr) := ⟨_, rfl⟩
        rw [← hqa] at hmk
        have HG := hide hqa
        clear hqa
        have x5 := HS.out.c5
        have xf := HS.out.fs 5
        have up := HS.out.up
        have up1 : w.heap.size + 1 < wc.heap.size := by omega
        have une : ¬ w.heap.size + 1 = wc.heap.size := by omega
        have x5' := (World.cell?_alloc_past (w := wc) (.cells (madeCells #[.string ⟨#[]⟩, .string ⟨#[]⟩, .int .u64 0, .int .u64 0, .int .i64 0, .int .i64 0, .string ⟨#[]⟩] (gn * 7)) 63) _ _ up1).trans x5
        have xf' := (World.frozen?_alloc_past (w := wc) (.cells (madeCells #[.string ⟨#[]⟩, .string ⟨#[]⟩, .int .u64 0, .int .u64 0, .int .i64 0, .int .i64 0, .string ⟨#[]⟩] (gn * 7)) 63) (w.heap.size + 1) 5 up1).trans xf
        rw [hz]
        go_wp2
        clear hmk x5 xf x5' xf'
        obtain ⟨wL, hwL⟩ : ∃ wL, wL = ((wc.setCell ⟨w.heap.size + 1, 5, none⟩ (.slice qa gn gn)).alloc (.cells (madeCells #[.string ⟨#[]⟩, .string ⟨#[]⟩, .int .u64 0, .int .u64 0, .int .i64 0, .int .i64 0, .string ⟨#[]⟩] (gn * 7)) 63)) := ⟨_, rfl⟩
        rw [← hwL]
        have HL : Hid (SAt w wL lv tok rv mem bv (.slice qa gn gn)) := by rw [hwL]; exact HS.out.put5 _ _
        have HF : Hid (Fam wL qa (gn * 7)) := by
          rw [hwL]
          exact Fam.made (wc.setCell ⟨w.heap.size + 1, 5, none⟩ (.slice qa gn gn)) qa (gn * 7) #[.string ⟨#[]⟩, .string ⟨#[]⟩, .int .u64 0, .int .u64 0, .int .i64 0, .int .i64 0, .string ⟨#[]⟩] 63 (by rw [World.size_setCell]; exact HG.out)
        have HP : Hid (Below wc.heap.size (wc.setCell ⟨w.heap.size + 1, 5, none⟩ (.slice qa gn gn)) wL) := by rw [hwL]; exact (below1 _ _).mono (by rw [World.size_setCell]; exact Nat.le_refl _)
        have lL : wL.heap.size = wc.heap.size + 1 := by rw [hwL]; simp [World.size_setCell]
        clear hwL
        go_loopw [17] (fun i wx => ∃ k : Nat, k ≤ gn ∧ i = .int .i64 k ∧ Below wc.heap.size wL wx ∧ Fam wx qa (gn * 7) ∧ UpTo wx qa 7 (fun i => (G i).c) k) (fun i _ => gn - (intOf i).toNat)
        case atStart => exact ⟨0, Nat.zero_le _, rfl, Below.refl _ _, HF.out, fun i hi => by omega⟩
        case round =>
          obtain ⟨k, hk, rfl, hb, hf, hu⟩ := hrel
          have HB := hide hb
          have HX := hide hf
          have HU := hide hu
          clear hb hf hu
          by_cases hlt : k < gn
          · have hidx := fun w => run_index_at (P := Try.prog) (c := gc) Try.underlying26 size66 IN.out.g.pl hlt w
            have hidq := fun w => run_index_at (P := Try.prog) (c := gn) (a := qa) (n := gn) Try.underlying33 size63 (fun _ => by rw [HG.out]; rfl) hlt w
            have sx := cell_below HB.out HL.out.c5 up1
            have BX := hide (HL.out.bel.trans (HB.out.mono (by omega)))
            have i0 : w.cell? ⟨blk ga, ofs ga + k * 7, none⟩ = some (.string (G k).budget) := IN.out.g.c k hlt 0 (by omega)
            have i0 := cell_below BX.out i0 (IN.out.g.lt k hlt (by omega))
            have i1 : w.cell? ⟨blk ga, ofs ga + k * 7 + 1, none⟩ = some (.string (G k).holder) := IN.out.g.c k hlt 1 (by omega)
            have i1 := cell_below BX.out i1 (IN.out.g.lt k hlt (by omega))
            have i2 : w.cell? ⟨blk ga, ofs ga + k * 7 + 2, none⟩ = some (.int .u64 (G k).token) := IN.out.g.c k hlt 2 (by omega)
            have i2 := cell_below BX.out i2 (IN.out.g.lt k hlt (by omega))
            have i3 : w.cell? ⟨blk ga, ofs ga + k * 7 + 3, none⟩ = some (.int .u64 (G k).units) := IN.out.g.c k hlt 3 (by omega)
            have i3 := cell_below BX.out i3 (IN.out.g.lt k hlt (by omega))
            have i4 : w.cell? ⟨blk ga, ofs ga + k * 7 + 4, none⟩ = some (.int .i64 (G k).ttl) := IN.out.g.c k hlt 4 (by omega)
            have i4 := cell_below BX.out i4 (IN.out.g.lt k hlt (by omega))
            have i5 : w.cell? ⟨blk ga, ofs ga + k * 7 + 5, none⟩ = some (.int .i64 (G k).rem) := IN.out.g.c k hlt 5 (by omega)
            have i5 := cell_below BX.out i5 (IN.out.g.lt k hlt (by omega))
            have i6 : w.cell? ⟨blk ga, ofs ga + k * 7 + 6, none⟩ = some (.string (G k).key) := IN.out.g.c k hlt 6 (by omega)
            have i6 := cell_below BX.out i6 (IN.out.g.lt k hlt (by omega))
            obtain ⟨v0, d0⟩ := HX.out.is (k * 7) (mul_lt hlt (j := 0) (by omega))
            have f0 := HX.out.fr (k * 7) (mul_lt hlt (j := 0) (by omega))
            obtain ⟨v1, d1⟩ := HX.out.is (k * 7 + 1) (mul_lt hlt (j := 1) (by omega))
            have f1 := HX.out.fr (k * 7 + 1) (mul_lt hlt (j := 1) (by omega))
            obtain ⟨v2, d2⟩ := HX.out.is (k * 7 + 2) (mul_lt hlt (j := 2) (by omega))
            have f2 := HX.out.fr (k * 7 + 2) (mul_lt hlt (j := 2) (by omega))
            obtain ⟨v3, d3⟩ := HX.out.is (k * 7 + 3) (mul_lt hlt (j := 3) (by omega))
            have f3 := HX.out.fr (k * 7 + 3) (mul_lt hlt (j := 3) (by omega))
            obtain ⟨v4, d4⟩ := HX.out.is (k * 7 + 4) (mul_lt hlt (j := 4) (by omega))
            have f4 := HX.out.fr (k * 7 + 4) (mul_lt hlt (j := 4) (by omega))
            obtain ⟨v5, d5⟩ := HX.out.is (k * 7 + 5) (mul_lt hlt (j := 5) (by omega))
            have f5 := HX.out.fr (k * 7 + 5) (mul_lt hlt (j := 5) (by omega))
            obtain ⟨v6, d6⟩ := HX.out.is (k * 7 + 6) (mul_lt hlt (j := 6) (by omega))
            have f6 := HX.out.fr (k * 7 + 6) (mul_lt hlt (j := 6) (by omega))
            simp only [← Nat.add_assoc] at d1 f1 d2 f2 d3 f3 d4 f4 d5 f5 d6 f6
            go_wp2
            refine wp_region_still_tail 40 (by kernel_rfl) (by kernel_rfl) ?_
            simp only [List.take_succ_cons, List.take_zero, List.drop_succ_cons, List.drop_zero]
            iterate 40 still_step
            refine wpStill_nil ?_
            rw [show ({ wr with drawn := wr.drawn + 1 } : World) = wr.drew from rfl]
            go_wp2
            go_roundw
            case rel =>
              have st := upTo_step HX.out HU.out hlt (vs := [.string (G k).budget, .string (G k).holder, .int .u64 (G k).token, .int .u64 (G k).units, .int .i64 (G k).ttl, .int .i64 (G k).rem, .string (G k).key]) rfl (fun j hj => by match j, hj with | 0, _ => rfl | 1, _ => rfl | 2, _ => rfl | 3, _ => rfl | 4, _ => rfl | 5, _ => rfl | 6, _ => rfl)
              have hq : wc.heap.size ≤ blk qa := by rw [HG.out]; exact Nat.le_refl _
              have sb := setRow_below hq [.string (G k).budget, .string (G k).holder, .int .u64 (G k).token, .int .u64 (G k).units, .int .i64 (G k).ttl, .int .i64 (G k).rem, .string (G k).key] (o := ofs qa + k * 7) HB.out
              rw [setRow7] at st sb
              exact ⟨k + 1, by omega, by go_num, sb.drew, st.1.drew, UpTo.drew st.2⟩
            case measure => simp [intOf]; omega
          · obtain rfl : gn = k := by omega
            go_wp2_with fail
            go_meet
            have hsz := HB.out.size
            have HQ : Below (wc.setCell ⟨w.heap.size + 1, 5, none⟩ (.slice qa gn gn)).heap.size (wc.setCell ⟨w.heap.size + 1, 5, none⟩ (.slice qa gn gn)) wr := by rw [World.size_setCell]; exact HP.out.trans HB.out
            exact ⟨lv, rv, bv, .slice qa gn gn, l1, l2, l3, wc.heap.size, HL.out.below HB.out up, (Q0.out.set _ _).below HQ, (Q1.out.set _ _).below HQ, (Q2.out.set _ _).below HQ, RowOK.new HG.out up (by omega) HX.out HU.out hz1, XR.out.1, XR.out.2, Apart.new Q2.out HG.out⟩
      · have h0 : gn = 0 := NG.out (by cases h : ga with | none => rfl | some _ => rw [h] at hz; exact absurd rfl hz)
        have hz : ga.isSome = false := by simpa using hz
        have hz1 : ga.isNone = true := by cases ga; rfl; cases hz
        have hz2 : (!ga.isNone) = false := by rw [hz1]; rfl
        rw [hz]
        go_wp2_with fail
        go_meet
        exact ⟨lv, rv, bv, .slice none 0 0, l1, l2, l3, w.heap.size + 2, HS.out, Q0.out, Q1.out, Q2.out, RowOK.none h0 hz1, XR.out.1, XR.out.2, Apart.nil h0⟩
    case rest =>
      clear HS Q0 Q1 Q2 XR
      obtain ⟨lv, rv, bv, gv, l1, l2, l3, l4, hs, q0, q1, q2, q3, xr⟩ := hcut
      have HS := hide hs
      have Q0 := hide q0
      have Q1 := hide q1
      have Q2 := hide q2
      have Q3 := hide q3
      have XR := hide xr
      clear hs q0 q1 q2 q3 xr
      obtain ⟨xlv, hlv⟩ : ∃ a, lv = .slice a ln ln := by obtain ⟨a, h, _⟩ := Q0.out; exact ⟨a, h⟩
      subst hlv
      obtain ⟨xrv, hrv⟩ : ∃ a, rv = .slice a rn rn := by obtain ⟨a, h, _⟩ := Q1.out; exact ⟨a, h⟩
      subst hrv
      obtain ⟨xbv, hbv⟩ : ∃ a, bv = .slice a bn bn := by obtain ⟨a, h, _⟩ := Q2.out; exact ⟨a, h⟩
      subst hbv
      obtain ⟨xgv, hgv⟩ : ∃ a, gv = .slice a gn gn := by obtain ⟨a, h, _⟩ := Q3.out; exact ⟨a, h⟩
      subst hgv
      have x0 := HS.out.c0
      obtain ⟨z0, y0⟩ := HS.out.z 0 (by omega)
      have f0 := HS.out.fz 0
      have x1 := HS.out.c1
      obtain ⟨z1, y1⟩ := HS.out.z 1 (by omega)
      have f1 := HS.out.fz 1
      have x2 := HS.out.c2
      obtain ⟨z2, y2⟩ := HS.out.z 2 (by omega)
      have f2 := HS.out.fz 2
      have x3 := HS.out.c3
      obtain ⟨z3, y3⟩ := HS.out.z 3 (by omega)
      have f3 := HS.out.fz 3
      have x4 := HS.out.c4
      obtain ⟨z4, y4⟩ := HS.out.z 4 (by omega)
      have f4 := HS.out.fz 4
      have x5 := HS.out.c5
      obtain ⟨z5, y5⟩ := HS.out.z 5 (by omega)
      have f5 := HS.out.fz 5
      have up := HS.out.up
      go_wp2
      exact bodyPost_ret (v := .agg #[.slice xlv ln ln, .int .u64 tok, .slice xrv rn rn, .int .i64 mem, .slice xbv bn bn, .slice xgv gn gn]) (by simp [results, Try.results7, go_sem, y0, y1, y2, y3, y4, y5]) rfl ⟨_, _, _, _, l1, l2, l3, l4, rfl, below_zero HS.out.bel _ _ _ _ _ _, Q0.out.zero _ _ _ _ _ _, Q1.out.zero _ _ _ _ _ _, Q2.out.zero _ _ _ _ _ _, Q3.out.zero _ _ _ _ _ _, XR.out⟩
end Go.Proofs.Qxb6628443a
