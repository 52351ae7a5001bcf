import Derived.Test.Qxb6628443aOwnsC
import Derived.Test.Qxb6628443aMid
import Derived.Test.Qxb6628443aW5
import Derived.StillTailTactics
import Derived.Deep.CutRange
namespace Go.Proofs.Qxb6628443a
open Go.RowKit

set_option maxRecDepth 100000 in
set_option maxHeartbeats 8000000 in
theorem ownsB (la : Option Addr) (ln lc : Nat) (L : Nat → LI) (tok : Int) (ra : Option Addr) (rn rc : Nat) (R : Nat → RI) (mem : Int) (ba : Option Addr) (bn bc : Nat) (B : Nat → BI) (ga : Option Addr) (gn gc : Nat) (G : Nat → GI) (w : World) (inp : Inp w la ln L ra rn R ba bn B ga gn G) (l2 : rn ≤ 4096) (l3 : bn ≤ 4096) (wc : World) (lo s1 : Nat) (xr xb : Option Addr) (tb lb b1 gb : Nat) (ml : List (ByteArray × Value)) (mg : List (Int × Value)) (qa : Option Addr) (qc : Nat) (tb' lb' b2 gb' : Nat) (ml' : List (ByteArray × Value)) (mg' : List (Int × Value)) (qa' : Option Addr) (qc' : Nat) (HM : Hid (MidB lo w wc s1 xr rn R xb bn B)) (H1 : Hid (Tal lo wc tb lb b1 gb tok mem ml (foldL (fun i => (B i).name) (fun i => (B i).agg) bn) mg qa qc rn (fun i => (R i).c))) (H2 : Hid (Tal lo wc tb' lb' b2 gb' tok mem ml' (foldL (fun i => (B i).name) (fun i => (B i).agg) bn) mg' qa' qc' rn (fun i => (R i).c))) (HQ : Hid (qa.isNone = ra.isNone))
    (t6 t7 t8 t9 t10 t11 t12 t14 t15 t18 t19 t20 t21 t22 t23 t24 t25 t26 t27 t28 t29 t30 t31 t32 t33 t34 t35 t36 t37 t38 t39 t40 t41 t42 t43 t44 t45 t46 t47 t48 t49 t50 t51 t52 t53 t54 t55 t56 t57 t58 t59 t60 t61 t62 t63 t64 t65 t66 t67 t68 t69 t70 t71 t72 t73 t74 t75 t76 t77 t78 t79 t80 t81 t82 t83 t84 t85 t86 t87 t88 t89 t90 t91 t92 t93 t94 t95 t96 t97 t98 t99 t100 t101 t102 t103 t104 t105 t106 t107 t108 t109 t110 t111 t112 t113 t114 t115 t116 t117 t118 t119 t120 t121 t122 t123 t124 t125 t126 t127 t128 t129 t130 t131 t132 t133 t134 t135 t136 t137 t138 t139 t140 t141 t142 t143 t144 t145 t146 t147 t148 t149 t150 t151 t152 t153 t154 t155 t156 t157 t158 t159 t160 t161 t162 t163 t164 t165 t166 t167 t168 t169 t170 t171 t172 t173 t174 t175 t176 t177 t178 t179 t180 t181 t182 t183 t184 t185 t186 t187 t188 t189 t190 t191 t192 t193 t194 t195 t196 t197 t198 t199 t200 t201 t202 t203 t204 t205 t206 t207 t208 t209 t210 t211 t212 t213 t214 t215 t216 t217 t218 t219 t220 t221 t222 t223 t224 t225 t226 t227 t228 t229 t230 t231 t232 t233 t234 t235 t236 t237 t238 t239 t240 t241 t242 t243 t244 t245 t246 t247 t248 t249 t250 : Value) : ∀ c, tl 10 Try.f4.body = some c → c.wp Try.prog (bodyPost Try.prog Try.f4 (Ret1 w (.bool true))) { tmps := #[.slice la ln lc, .int .u64 tok, .slice ra rn rc, .int .i64 mem, .slice ba bn bc, .slice ga gn gc, t6, t7, t8, t9, t10, t11, t12, .pointer (some ⟨s1, 0, none⟩), t14, t15, .pointer (some ⟨tb, 0, none⟩), .pointer (some ⟨tb', 0, none⟩), t18, t19, t20, t21, t22, t23, t24, t25, t26, t27, t28, t29, t30, t31, t32, t33, t34, t35, t36, t37, t38, t39, t40, t41, t42, t43, t44, t45, t46, t47, t48, t49, t50, t51, t52, t53, t54, t55, t56, t57, t58, t59, t60, t61, t62, t63, t64, t65, t66, t67, t68, t69, t70, t71, t72, t73, t74, t75, t76, t77, t78, t79, t80, t81, t82, t83, t84, t85, t86, t87, t88, t89, t90, t91, t92, t93, t94, t95, t96, t97, t98, t99, t100, t101, t102, t103, t104, t105, t106, t107, t108, t109, t110, t111, t112, t113, t114, t115, t116, t117, t118, t119, t120, t121, t122, t123, t124, t125, t126, t127, t128, t129, t130, t131, t132, t133, t134, t135, t136, t137, t138, t139, t140, t141, t142, t143, t144, t145, t146, t147, t148, t149, t150, t151, t152, t153, t154, t155, t156, t157, t158, t159, t160, t161, t162, t163, t164, t165, t166, t167, t168, t169, t170, t171, t172, t173, t174, t175, t176, t177, t178, t179, t180, t181, t182, t183, t184, t185, t186, t187, t188, t189, t190, t191, t192, t193, t194, t195, t196, t197, t198, t199, t200, t201, t202, t203, t204, t205, t206, t207, t208, t209, t210, t211, t212, t213, t214, t215, t216, t217, t218, t219, t220, t221, t222, t223, t224, t225, t226, t227, t228, t229, t230, t231, t232, t233, t234, t235, t236, t237, t238, t239, t240, t241, t242, t243, t244, t245, t246, t247, t248, t249, t250], defers := [] } wc := by
  refine wp_tail rfl ?_
  have IN := hide inp
  clear inp
  go_wp2
  go_loopw [18] (fun i wx => ∃ k : Nat, k ≤ rn ∧ i = .int .i64 k ∧ But rn (blk xr) wc wx ∧ Fam wx xr (rn * 3) ∧ ∃ R2 : Nat → RI, (∀ i, i < rn → (R2 i).key.size ≤ 1048576 + k) ∧ Recs wx xr 3 rn (fun i => (R2 i).c)) (fun i _ => rn - (intOf i).toNat)
  case atStart => exact ⟨0, Nat.zero_le _, rfl, But.refl _ _ _, HM.out.fr, R, HM.out.kr, HM.out.r⟩
  case round =>
    obtain ⟨k, hk, rfl, hb, hf, R2, hkr, hr⟩ := hrel
    have HB := hide hb
    have HF := hide hf
    have HR := hide hr
    have HK := hide hkr
    clear hb hf hr hkr
    have xc : wr.cell? ⟨s1, 2, none⟩ = some (.slice xr rn rn) := HB.out.cell HM.out.c2 (fun h e => (HM.out.ro h).2.2 e.symm)
    by_cases hlt : k < rn
    · have hpos : 0 < rn := by omega
      have hidx := fun w => run_index_at (P := Try.prog) (c := rn) Try.underlying30 size69 HR.out.pl hlt w
      have sne : s1 ≠ blk xr := fun e => (HM.out.ro hpos).2.2 e.symm
      have r0 : wr.cell? ⟨blk xr, ofs xr + k * 3, none⟩ = some (.int .u64 (R2 k).token) := HR.out.c k hlt 0 (by omega)
      have f0 := HF.out.fr (k * 3) (mul_lt hlt (j := 0) (by omega))
      go_wp2
      refine wp_region_still_tail 12 (by kernel_rfl) (by kernel_rfl) ?_
      simp only [List.take_succ_cons, List.take_zero, List.drop_succ_cons, List.drop_zero]
      iterate 12 still_step
      refine wpStill_nil ?_
      rw [show ({ wr with drawn := wr.drawn + 1 } : World) = wr.drew from rfl]
      go_wp2
      obtain ⟨R3, e3, hr3⟩ := relTok HR.out hlt (bits .xor .u64 IntKind.u64.max (R2 k).token)
      obtain ⟨W1, hW⟩ : ∃ W, W = (wr.setCell ⟨blk xr, ofs xr + k * 3, none⟩ (.int .u64 (bits .xor .u64 IntKind.u64.max (R2 k).token))).drew := ⟨_, rfl⟩
      rw [← hW]
      have hR : Recs W1 xr 3 rn (fun i => (R3 i).c) := by rw [hW]; exact hr3.drew
      have hF : Fam W1 xr (rn * 3) := by rw [hW]; exact (HF.out.set _ _ _).drew
      have hB : But rn (blk xr) wc W1 := by rw [hW]; exact (HB.out.set hpos _ _).drew
      have hK : ∀ i, i < rn → (R3 i).key.size ≤ 1048576 + k := fun i hi => by rw [e3]; exact HK.out i hi
      clear HR HF HB HK xc hW hr3 e3 r0 f0
      have HR := hide hR
      have HF := hide hF
      have HB := hide hB
      have HK := hide hK
      clear hR hF hB hK
      have xc := HB.out.cell HM.out.c2 (fun _ => sne)
      have r1 : W1.cell? ⟨blk xr, ofs xr + k * 3 + 1, none⟩ = some (.string (R3 k).key) := HR.out.c k hlt 1 (by omega)
      have f1 := HF.out.fr (k * 3 + 1) (mul_lt hlt (j := 1) (by omega))
      simp only [← Nat.add_assoc] at f1
      have hcn : ¬ 9223372036854775807 < (R3 k).key.size + 1 := by have := HK.out k hlt; omega
      go_wp2
      refine wp_region_still_tail 12 (by kernel_rfl) (by kernel_rfl) ?_
      simp only [List.take_succ_cons, List.take_zero, List.drop_succ_cons, List.drop_zero]
      iterate 12 still_step
      refine wpStill_nil ?_
      rw [show ({ W1 with drawn := W1.drawn + 1 } : World) = W1.drew from rfl]
      go_wp2
      obtain ⟨R4, e3, hr3⟩ := relKey HR.out hlt ((R3 k).key ++ ⟨#[33]⟩)
      obtain ⟨W2, hW⟩ : ∃ W, W = (W1.setCell ⟨blk xr, ofs xr + k * 3 + 1, none⟩ (.string ((R3 k).key ++ ⟨#[33]⟩))).drew := ⟨_, rfl⟩
      rw [← hW]
      have hR : Recs W2 xr 3 rn (fun i => (R4 i).c) := by rw [hW]; exact hr3.drew
      have hF : Fam W2 xr (rn * 3) := by rw [hW]; exact (HF.out.set _ _ _).drew
      have hB : But rn (blk xr) wc W2 := by rw [hW]; exact (HB.out.set hpos _ _).drew
      have hK : ∀ i, i < rn → (R4 i).key.size ≤ 1048576 + (k + 1) := fun i hi => by
        rw [e3]
        split
        · rw [bang_size]; have := HK.out k hlt; omega
        · have := HK.out i hi; omega
      clear HR HF HB HK xc hW hr3 e3 r1 f1 hcn
      have HR := hide hR
      have HF := hide hF
      have HB := hide hB
      have HK := hide hK
      clear hR hF hB hK
      have xc := HB.out.cell HM.out.c2 (fun _ => sne)
      have r2 : W2.cell? ⟨blk xr, ofs xr + k * 3 + 2, none⟩ = some (.int .i64 (R4 k).at_) := HR.out.c k hlt 2 (by omega)
      have f2 := HF.out.fr (k * 3 + 2) (mul_lt hlt (j := 2) (by omega))
      simp only [← Nat.add_assoc] at f2
      go_wp2
      refine wp_region_still_tail 12 (by kernel_rfl) (by kernel_rfl) ?_
      simp only [List.take_succ_cons, List.take_zero, List.drop_succ_cons, List.drop_zero]
      iterate 12 still_step
      refine wpStill_nil ?_
      rw [show ({ W2 with drawn := W2.drawn + 1 } : World) = W2.drew from rfl]
      go_wp2
      obtain ⟨R5, e3, hr3⟩ := relAt HR.out hlt (bits .xor .i64 (if IntKind.i64.signed = true then -1 else 9223372036854775807) (R4 k).at_)
      obtain ⟨W3, hW⟩ : ∃ W, W = (W2.setCell ⟨blk xr, ofs xr + k * 3 + 2, none⟩ (.int .i64 (bits .xor .i64 (if IntKind.i64.signed = true then -1 else 9223372036854775807) (R4 k).at_))).drew := ⟨_, rfl⟩
      rw [← hW]
      have hR : Recs W3 xr 3 rn (fun i => (R5 i).c) := by rw [hW]; exact hr3.drew
      have hF : Fam W3 xr (rn * 3) := by rw [hW]; exact (HF.out.set _ _ _).drew
      have hB : But rn (blk xr) wc W3 := by rw [hW]; exact (HB.out.set hpos _ _).drew
      have hK : ∀ i, i < rn → (R5 i).key.size ≤ 1048576 + (k + 1) := fun i hi => by rw [e3]; exact HK.out i hi
      clear HR HF HB HK xc hW hr3 e3 r2 f2
      have HR := hide hR
      have HF := hide hF
      have HB := hide hB
      have HK := hide hK
      clear hR hF hB hK
      go_roundw
      case rel => exact ⟨k + 1, by omega, by go_num, HB.out, HF.out, R5, HK.out, HR.out⟩
      case measure => simp [intOf]; omega
    · obtain rfl : rn = k := by omega
      obtain ⟨w6, hw6⟩ : ∃ w6, w6 = wr := ⟨_, rfl⟩
      subst hw6
      clear hk HR HK HF
      have SM := hide (HB.out.same (lo := lo) (fun h => (HM.out.ro h).2.1))
      have h1 := H1.out.keep SM.out
      have h2 := H2.out.keep SM.out
      have BE := hide (HM.out.bel.trans (HB.out.below (fun h => (HM.out.ro h).1)))
      have C4 := hide (HB.out.cell HM.out.c4 (fun h e => (HM.out.ro h).2.2 e.symm))
      have RB := hide (HB.out.recs HM.out.b HM.out.rb)
      have FB := hide (HB.out.fam HM.out.fb (fun h h' => HM.out.rb h (by rcases Nat.eq_zero_or_pos bn with e | e; (subst e; simp at h'); exact e)))
      clear H1 H2 HB SM
      have H1 := hide h1
      have H2 := hide h2
      clear h1 h2
      go_wp2
      clear xc hlt
      go_loopw [19] (fun i wx => ∃ k : Nat, k ≤ bn ∧ i = .int .i64 k ∧ But bn (blk xb) w6 wx ∧ Fam wx xb (bn * 3) ∧ ∃ R2 : Nat → BI, (∀ i, i < bn → (R2 i).name.size ≤ 1048576 + k) ∧ Recs wx xb 3 bn (fun i => (R2 i).c)) (fun i _ => bn - (intOf i).toNat)
      case atStart => exact ⟨0, Nat.zero_le _, rfl, But.refl _ _ _, FB.out, B, HM.out.kb, RB.out⟩
      case round =>
        obtain ⟨k, hk, rfl, hb, hf, R2, hkr, hr⟩ := hrel
        have HB := hide hb
        have HF := hide hf
        have HR := hide hr
        have HK := hide hkr
        clear hb hf hr hkr
        have xc : wr.cell? ⟨s1, 4, none⟩ = some (.slice xb bn bn) := HB.out.cell C4.out (fun h e => (HM.out.bo h).2.2 e.symm)
        by_cases hlt : k < bn
        · have hpos : 0 < bn := by omega
          have hidx := fun w => run_index_at (P := Try.prog) (c := bn) Try.underlying32 size56 HR.out.pl hlt w
          have sne : s1 ≠ blk xb := fun e => (HM.out.bo hpos).2.2 e.symm
          have r1 : wr.cell? ⟨blk xb, ofs xb + k * 3 + 1, none⟩ = some (.int .u64 (R2 k).units) := HR.out.c k hlt 1 (by omega)
          have f1 := HF.out.fr (k * 3 + 1) (mul_lt hlt (j := 1) (by omega))
          simp only [← Nat.add_assoc] at f1
          go_wp2
          refine wp_region_still_tail 12 (by kernel_rfl) (by kernel_rfl) ?_
          simp only [List.take_succ_cons, List.take_zero, List.drop_succ_cons, List.drop_zero]
          iterate 12 still_step
          refine wpStill_nil ?_
          rw [show ({ wr with drawn := wr.drawn + 1 } : World) = wr.drew from rfl]
          go_wp2
          obtain ⟨R3, e3, hr3⟩ := budUnits HR.out hlt (bits .xor .u64 IntKind.u64.max (R2 k).units)
          obtain ⟨W1, hW⟩ : ∃ W, W = (wr.setCell ⟨blk xb, ofs xb + k * 3 + 1, none⟩ (.int .u64 (bits .xor .u64 IntKind.u64.max (R2 k).units))).drew := ⟨_, rfl⟩
          rw [← hW]
          have hR : Recs W1 xb 3 bn (fun i => (R3 i).c) := by rw [hW]; exact hr3.drew
          have hF : Fam W1 xb (bn * 3) := by rw [hW]; exact (HF.out.set _ _ _).drew
          have hB : But bn (blk xb) w6 W1 := by rw [hW]; exact (HB.out.set hpos _ _).drew
          have hK : ∀ i, i < bn → (R3 i).name.size ≤ 1048576 + k := fun i hi => by rw [e3]; exact HK.out i hi
          clear HR HF HB HK xc hW hr3 e3 r1 f1
          have HR := hide hR
          have HF := hide hF
          have HB := hide hB
          have HK := hide hK
          clear hR hF hB hK
          have xc := HB.out.cell C4.out (fun _ => sne)
          have r0 : W1.cell? ⟨blk xb, ofs xb + k * 3, none⟩ = some (.string (R3 k).name) := HR.out.c k hlt 0 (by omega)
          have f0 := HF.out.fr (k * 3) (mul_lt hlt (j := 0) (by omega))
          have hcn : ¬ 9223372036854775807 < (R3 k).name.size + 1 := by have := HK.out k hlt; omega
          go_wp2
          refine wp_region_still_tail 12 (by kernel_rfl) (by kernel_rfl) ?_
          simp only [List.take_succ_cons, List.take_zero, List.drop_succ_cons, List.drop_zero]
          iterate 12 still_step
          refine wpStill_nil ?_
          rw [show ({ W1 with drawn := W1.drawn + 1 } : World) = W1.drew from rfl]
          go_wp2
          obtain ⟨R4, e3, hr3⟩ := budName HR.out hlt ((R3 k).name ++ ⟨#[33]⟩)
          obtain ⟨W2, hW⟩ : ∃ W, W = (W1.setCell ⟨blk xb, ofs xb + k * 3, none⟩ (.string ((R3 k).name ++ ⟨#[33]⟩))).drew := ⟨_, rfl⟩
          rw [← hW]
          have hR : Recs W2 xb 3 bn (fun i => (R4 i).c) := by rw [hW]; exact hr3.drew
          have hF : Fam W2 xb (bn * 3) := by rw [hW]; exact (HF.out.set _ _ _).drew
          have hB : But bn (blk xb) w6 W2 := by rw [hW]; exact (HB.out.set hpos _ _).drew
          have hK : ∀ i, i < bn → (R4 i).name.size ≤ 1048576 + (k + 1) := fun i hi => by
            rw [e3]
            split
            · rw [bang_size]; have := HK.out k hlt; omega
            · have := HK.out i hi; omega
          clear HR HF HB HK xc hW hr3 e3 r0 f0 hcn
          have HR := hide hR
          have HF := hide hF
          have HB := hide hB
          have HK := hide hK
          clear hR hF hB hK
          go_roundw
          case rel => exact ⟨k + 1, by omega, by go_num, HB.out, HF.out, R4, HK.out, HR.out⟩
          case measure => simp [intOf]; omega
        · obtain rfl : bn = k := by omega
          clear hk HR HK HF C4 RB FB
          have SM := hide (HB.out.same (lo := lo) (fun h => (HM.out.bo h).2.1))
          have h1 := (H1.out.keep SM.out).low (Nat.zero_le _)
          have h2 := (H2.out.keep SM.out).low (Nat.zero_le _)
          have be := BE.out.trans (HB.out.below (fun h => (HM.out.bo h).1))
          clear H1 H2 HB SM BE HM
          have H1 := hide h1
          have H2 := hide h2
          have BE := hide be
          clear h1 h2 be
          go_wp2_with fail
          clear xc hlt
          refine (acc12 tb qa rn qc _ H1.out.c2).mono ?_
          rintro e w' ⟨rfl, hw⟩
          have hw := hw.symm
          subst hw
          go_wp2_with fail
          refine (relsAre qa rn qc ra rc R _ H1.out.r (IN.out.r.below BE.out) HQ.out (by omega)).mono ?_
          rintro e w8 ⟨rfl, hb8⟩
          have h1 := H1.out.grow hb8
          have h2 := H2.out.grow hb8
          have be := gr_below BE.out hb8
          clear H1 H2 BE hb8
          have H1 := hide h1
          have H2 := hide h2
          have BE := hide be
          clear h1 h2 be
          go_upto_if 181 with fail
          go_cut [] from 18 to 250 (fun wx => wx = w8)
          case first =>
            go_wp2_with fail
            go_meet
            exact rfl
          case rest =>
            subst hcut
            refine ‹∀ (a : Act) (w_1 : World), Code.wp Try.prog _ (bodyPost _ _ _) a w_1 → _› _ _ ?_
            exact ownsC la ln lc L tok ra rn rc R mem ba bn bc B ga gn gc G w IN.out l3 _ tb lb b1 gb ml mg qa qc tb' lb' b2 gb' ml' mg' qa' qc' BE H1 H2 _ _ _ _ _ _ _ _ _ _ _ _ _ _ _ _ _ _ _ _ _ _ _ _ _ _ _ _ _ _ _ _ _ _ _ _ _ _ _ _ _ _ _ _ _ _ _ _ _ _ _ _ _ _ _ _ _ _ _ _ _ _ _ _ _ _ _ _ _ _ _ _ _ _ _ _ _ _ _ _ _ _ _ _ _ _ _ _ _ _ _ _ _ _ _ _ _ _ _ _ _ _ _ _ _ _ _ _ _ _ _ _ _ _ _ _ _ _ _ _ _ _ _ _ _ _ _ _ _ _ _ _ _ _ _ _ _ _ _ _ _ _ _ _ _ _ _ _ _ _ _ _ _ _ _ _ _ _ _ _ _ _ _ _ _ _ _ _ _ _ _ _ _ _ _ _ _ _ _ _ _ _ _ _ _ _ _ _ _ _ _ _ _ _ _ _ _ _ _ _ _ _ _ _ _ _ _ _ _ _ _ _ _ _ _ _ _ _ _ _ _ _ _ _ _ _ _ _ _ _ _ _ _ _ _ _ _ _ _ _ _ _ _ _ rfl
end Go.Proofs.Qxb6628443a
