import Derived.Test.Qxb6628443aLen
import Derived.Test.Qxb6628443aSnap
namespace Go.Proofs.Qxb6628443a
open Go.RowKit

set_option maxRecDepth 100000 in
set_option maxHeartbeats 8000000 in
theorem ownsC (la : Option Addr) (ln lc : Nat) (L : Nat → LI) (tok : Int) (ra : Option Addr) (rn rc : Nat) (R : Nat → RI) (mem : Int) (ba : Option Addr) (bn bc : Nat) (B : Nat → BI) (ga : Option Addr) (gn gc : Nat) (G : Nat → GI) (w : World) (inp : Inp w la ln L ra rn R ba bn B ga gn G) (l3 : bn ≤ 4096) (wc : World) (tb lb b1 gb : Nat) (ml : List (ByteArray × Value)) (mg : List (Int × Value)) (qa : Option Addr) (qc : Nat) (tb' lb' b2 gb' : Nat) (ml' : List (ByteArray × Value)) (mg' : List (Int × Value)) (qa' : Option Addr) (qc' : Nat) (HB : Hid (Below w.heap.size w wc)) (H1 : Hid (Tal 0 wc tb lb b1 gb tok mem ml (foldL (fun i => (B i).name) (fun i => (B i).agg) bn) mg qa qc rn (fun i => (R i).c))) (H2 : Hid (Tal 0 wc tb' lb' b2 gb' tok mem ml' (foldL (fun i => (B i).name) (fun i => (B i).agg) bn) mg' qa' qc' rn (fun i => (R i).c)))
    (t6 t7 t8 t9 t10 t11 t12 t13 t14 t15 t18 t19 t20 t21 t22 t23 t24 t25 t26 t27 t28 t29 t30 t31 t32 t33 t34 t35 t36 t37 t38 t39 t40 t41 t42 t43 t44 t45 t46 t47 t48 t49 t50 t51 t52 t53 t54 t55 t56 t57 t58 t59 t60 t61 t62 t63 t64 t65 t66 t67 t68 t69 t70 t71 t72 t73 t74 t75 t76 t77 t78 t79 t80 t81 t82 t83 t84 t85 t86 t87 t88 t89 t90 t91 t92 t93 t94 t95 t96 t97 t98 t99 t100 t101 t102 t103 t104 t105 t106 t107 t108 t109 t110 t111 t112 t113 t114 t115 t116 t117 t118 t119 t120 t121 t122 t123 t124 t125 t126 t127 t128 t129 t130 t131 t132 t133 t134 t135 t136 t137 t138 t139 t140 t141 t142 t143 t144 t145 t146 t147 t148 t149 t150 t151 t152 t153 t154 t155 t156 t157 t158 t159 t160 t161 t162 t163 t164 t165 t166 t167 t168 t169 t170 t171 t172 t173 t174 t175 t176 t177 t178 t179 t180 t181 t182 t183 t184 t185 t186 t187 t188 t189 t190 t191 t192 t193 t194 t195 t196 t197 t198 t199 t200 t201 t202 t203 t204 t205 t206 t207 t208 t209 t210 t211 t212 t213 t214 t215 t216 t217 t218 t219 t220 t221 t222 t223 t224 t225 t226 t227 t228 t229 t230 t231 t232 t233 t234 t235 t236 t237 t238 t239 t240 t241 t242 t243 t244 t245 t246 t247 t248 t249 t250 : Value) : ∀ c, tl 13 Try.f4.body = some c → c.wp Try.prog (bodyPost Try.prog Try.f4 (Ret1 w (.bool true))) { tmps := #[.slice la ln lc, .int .u64 tok, .slice ra rn rc, .int .i64 mem, .slice ba bn bc, .slice ga gn gc, t6, t7, t8, t9, t10, t11, t12, t13, t14, t15, .pointer (some ⟨tb, 0, none⟩), .pointer (some ⟨tb', 0, none⟩), t18, t19, t20, t21, t22, t23, t24, t25, t26, t27, t28, t29, t30, t31, t32, t33, t34, t35, t36, t37, t38, t39, t40, t41, t42, t43, t44, t45, t46, t47, t48, t49, t50, t51, t52, t53, t54, t55, t56, t57, t58, t59, t60, t61, t62, t63, t64, t65, t66, t67, t68, t69, t70, t71, t72, t73, t74, t75, t76, t77, t78, t79, t80, t81, t82, t83, t84, t85, t86, t87, t88, t89, t90, t91, t92, t93, t94, t95, t96, t97, t98, t99, t100, t101, t102, t103, t104, t105, t106, t107, t108, t109, t110, t111, t112, t113, t114, t115, t116, t117, t118, t119, t120, t121, t122, t123, t124, t125, t126, t127, t128, t129, t130, t131, t132, t133, t134, t135, t136, t137, t138, t139, t140, t141, t142, t143, t144, t145, t146, t147, t148, t149, t150, t151, t152, t153, t154, t155, t156, t157, t158, t159, t160, t161, t162, t163, t164, t165, t166, t167, t168, t169, t170, t171, t172, t173, t174, t175, t176, t177, t178, t179, t180, t181, t182, t183, t184, t185, t186, t187, t188, t189, t190, t191, t192, t193, t194, t195, t196, t197, t198, t199, t200, t201, t202, t203, t204, t205, t206, t207, t208, t209, t210, t211, t212, t213, t214, t215, t216, t217, t218, t219, t220, t221, t222, t223, t224, t225, t226, t227, t228, t229, t230, t231, t232, t233, t234, t235, t236, t237, t238, t239, t240, t241, t242, t243, t244, t245, t246, t247, t248, t249, t250], defers := [] } wc := by
  refine wp_tail rfl ?_
  have IN := hide inp
  clear inp
  go_wp2_with fail
  refine (acc16 tb b1 _ H1.out.c4).mono ?_
  rintro e w' ⟨rfl, hw⟩
  have hw := hw.symm
  subst hw
  go_wp2_with fail
  refine (acc16 tb' b2 _ H2.out.c4).mono ?_
  rintro e w' ⟨rfl, hw⟩
  have hw := hw.symm
  subst hw
  go_wp2
  go_loopw [22, 23] (fun d i wx => ∃ k c : Nat, k ≤ bn ∧ i = .int .i64 k ∧ d = .int .i64 c ∧ c = cnt (fun j => (B j).name) bn k ∧ Below w.heap.size w wx ∧ Tal 0 wx tb lb b1 gb tok mem ml (foldL (fun i => (B i).name) (fun i => (B i).agg) bn) mg qa qc rn (fun i => (R i).c) ∧ Tal 0 wx tb' lb' b2 gb' tok mem ml' (foldL (fun i => (B i).name) (fun i => (B i).agg) bn) mg' qa' qc' rn (fun i => (R i).c)) (fun _ i _ => bn - (intOf i).toNat)
  case atStart => exact ⟨0, 0, Nat.zero_le _, rfl, rfl, rfl, HB.out, H1.out, H2.out⟩
  case round =>
    clear HB H1 H2
    obtain ⟨k, c, hk, rfl, rfl, hc, hb, h1, h2⟩ := hrel
    have HB := hide hb
    have H1 := hide h1
    have H2 := hide h2
    have HC := hide hc
    have cb : c ≤ 4096 := by have := cnt_le (fun j => (B j).name) bn k; omega
    clear hb h1 h2 hc
    by_cases hlt : k < bn
    · go_wp2_with fail
      refine (laterBudget ba bn bc B k _ (IN.out.b.below HB.out) (by omega) hlt).mono ?_
      rintro e w6 ⟨rfl, hb6⟩
      have h1 := H1.out.grow hb6
      have h2 := H2.out.grow hb6
      have hb := gr_below HB.out hb6
      clear H1 H2 HB hb6
      have H1 := hide h1
      have H2 := hide h2
      have HB := hide hb
      clear h1 h2 hb
      cases g : laterB (fun j => (B j).name) bn k
      · have hidx := fun w => run_index_at (P := Try.prog) (c := bc) Try.underlying25 size58 IN.out.b.pl hlt w
        have i0 : w.cell? ⟨blk ba, ofs ba + k * 3, none⟩ = some (.string (B k).name) := IN.out.b.c k hlt 0 (by omega)
        have i1 : w.cell? ⟨blk ba, ofs ba + k * 3 + 1, none⟩ = some (.int .u64 (B k).units) := IN.out.b.c k hlt 1 (by omega)
        have i0 := cell_below HB.out i0 (IN.out.b.lt k hlt (by omega))
        have i1 := cell_below HB.out i1 (IN.out.b.lt k hlt (by omega))
        have lt6 := lt_of_cell i0
        have hlook : (Instr.lookup 52 (.map (some b1)) (.string (B k).name) true).run Try.prog w6 = .ok (.tuple #[.agg #[.string (B k).name, .int .u64 (B k).units, .int .u64 0], .bool true]) w6 := run_look encS Try.underlying52 Try.underlying9 H1.out.b (look_last hlt g)
        obtain ⟨W1, hW1⟩ : ∃ W1, W1 = w6.alloc (.cells #[.string (B k).name, .int .u64 (B k).units, .int .u64 0] 56) := ⟨_, rfl⟩
        have g1 : Below w6.heap.size w6 W1 := by rw [hW1]; exact below1 _ _
        have hs1 : W1.heap.size = w6.heap.size + 1 := by rw [hW1]; simp
        have hlook2 : (Instr.lookup 52 (.map (some b2)) (.string (B k).name) true).run Try.prog W1 = .ok (.tuple #[.agg #[.string (B k).name, .int .u64 (B k).units, .int .u64 0], .bool true]) W1 := run_look encS Try.underlying52 Try.underlying9 (H2.out.grow g1).b (look_last hlt g)
        have HC2 := hide ((congrArg (· + 1) HC.out).trans (cnt_last g).symm)
        clear g HC
        obtain ⟨W, hW⟩ : ∃ W, W = W1.alloc (.cells #[.string (B k).name, .int .u64 (B k).units, .int .u64 0] 56) := ⟨_, rfl⟩
        have g2 : Below W1.heap.size W1 W := by rw [hW]; exact below1 _ _
        go_upto_region 39 with fail
        rw [← hW1]
        have j0 := cell_below g1 i0 lt6
        have j1 := cell_below g1 i1 lt6
        have y0 : W1.cell? ⟨w6.heap.size, 0, none⟩ = some (.string (B k).name) := by rw [hW1]; simp
        have y1 : W1.cell? ⟨w6.heap.size, 1, none⟩ = some (.int .u64 (B k).units) := by rw [hW1]; simp
        have y2 : W1.cell? ⟨w6.heap.size, 2, none⟩ = some (.int .u64 0) := by rw [hW1]; simp
        have H1W := hide ((H1.out.grow g1).grow g2)
        have H2W := hide ((H2.out.grow g1).grow g2)
        have HBW := hide (gr_below (gr_below HB.out g1) g2)
        clear H1 H2 HB hlook hW1 i0 i1 lt6
        go_upto_region 40 with fail
        rw [← hW]
        have i0 := cell_below g2 j0 (lt_of_cell j0)
        have i1 := cell_below g2 j1 (lt_of_cell j1)
        have z0 : W.cell? ⟨W1.heap.size, 0, none⟩ = some (.string (B k).name) := by rw [hW]; simp
        have z1 : W.cell? ⟨W1.heap.size, 1, none⟩ = some (.int .u64 (B k).units) := by rw [hW]; simp
        have z2 : W.cell? ⟨W1.heap.size, 2, none⟩ = some (.int .u64 0) := by rw [hW]; simp
        have x0 := cell_below g2 y0 (lt_of_cell y0)
        have x1 := cell_below g2 y1 (lt_of_cell y1)
        have x2 := cell_below g2 y2 (lt_of_cell y2)
        rw [hs1] at z0 z1 z2
        clear j0 j1 y0 y1 y2 hW g1 g2 hlook2 hs1
        go_wp2
        go_quiet (fail)
        go_wp2
        go_roundw
        case rel => exact ⟨k + 1, c + 1, by omega, by go_num, by go_num, HC2.out, drewN_below HBW.out _, H1W.out.keep (fun _ _ _ => rfl), H2W.out.keep (fun _ _ _ => rfl)⟩
        case measure => simp [intOf]; omega
      · have HC2 := hide (HC.out.trans (cnt_later g).symm)
        clear g HC
        go_wp2
        go_roundw
        case rel => exact ⟨k + 1, c, by omega, by go_num, rfl, HC2.out, HB.out, H1.out, H2.out⟩
        case measure => simp [intOf]; omega
    · obtain rfl : bn = k := by omega
      have hlen := run_mlen (P := Try.prog) Try.underlying52 H1.out.b ((len_fold _ _ _).trans HC.out.symm)
      have hlen2 := run_mlen (P := Try.prog) Try.underlying52 H2.out.b ((len_fold _ _ _).trans HC.out.symm)
      clear hlt hk HC cb
      go_wp2
      go_ret
      exact ⟨rfl, HB.out⟩
end Go.Proofs.Qxb6628443a
