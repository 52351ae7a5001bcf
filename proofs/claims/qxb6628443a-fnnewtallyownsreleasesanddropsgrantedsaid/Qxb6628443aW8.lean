import Derived.Test.Qxb6628443aTal
import Derived.StillTailTactics
import Derived.Deep.CutRange
import Derived.Deep.RegionHeld3
namespace Go.Proofs.Qxb6628443a
open Go.RowKit

/-- The snapshot's own box, and nothing old has turned. -/
def SB (w : World) (lv : Value) (tok : Int) (rv : Value) (mem : Int) (bv gv : Value) (w' : World) : Prop :=
  w'.cell? ⟨w.heap.size, 0, none⟩ = some lv ∧ w'.cell? ⟨w.heap.size, 1, none⟩ = some (.int .u64 tok) ∧ w'.cell? ⟨w.heap.size, 2, none⟩ = some rv ∧ w'.cell? ⟨w.heap.size, 3, none⟩ = some (.int .i64 mem) ∧ w'.cell? ⟨w.heap.size, 4, none⟩ = some bv ∧ w'.cell? ⟨w.heap.size, 5, none⟩ = some gv ∧ Hid (Below w.heap.size w w')
section
variable {w : World} {lv rv bv gv : Value} {tok mem : Int} {w' : World}
theorem SB.bel (h : SB w lv tok rv mem bv gv w') : Below w.heap.size w w' := h.2.2.2.2.2.2
theorem SB.below (h : SB w lv tok rv mem bv gv w') {w2 : World} (hb : Below w'.heap.size w' w2) : SB w lv tok rv mem bv gv w2 :=
  ⟨cell_below hb h.1 (lt_of_cell h.1), cell_below hb h.2.1 (lt_of_cell h.2.1), cell_below hb h.2.2.1 (lt_of_cell h.2.2.1), cell_below hb h.2.2.2.1 (lt_of_cell h.2.2.2.1), cell_below hb h.2.2.2.2.1 (lt_of_cell h.2.2.2.2.1), cell_below hb h.2.2.2.2.2.1 (lt_of_cell h.2.2.2.2.2.1), h.bel.trans (hb.mono h.bel.size)⟩
theorem SB.alloc (h : SB w lv tok rv mem bv gv w') (o : Obj) : SB w lv tok rv mem bv gv (w'.alloc o) := h.below (below1 w' o)
theorem SB.putObj (h : SB w lv tok rv mem bv gv w') {κ : Type} {enc : κ → Value} {b : Nat} {l : List (κ × Value)} (hm : MapAt enc w' b l) (hb : w.heap.size ≤ b) (o : Obj) : SB w lv tok rv mem bv gv (putObj w' b o) :=
  ⟨putObj_keeps hm o h.1, putObj_keeps hm o h.2.1, putObj_keeps hm o h.2.2.1, putObj_keeps hm o h.2.2.2.1, putObj_keeps hm o h.2.2.2.2.1, putObj_keeps hm o h.2.2.2.2.2.1, putObj_below o h.bel hb⟩
theorem SB.drew (h : SB w lv tok rv mem bv gv w') : SB w lv tok rv mem bv gv w'.drew := ⟨h.1, h.2.1, h.2.2.1, h.2.2.2.1, h.2.2.2.2.1, h.2.2.2.2.2.1, h.bel.drew⟩
theorem SB.start (w : World) (lv : Value) (tok : Int) (rv : Value) (mem : Int) (bv gv : Value) : SB w lv tok rv mem bv gv ((w.alloc (.cells #[lv, .int .u64 tok, rv, .int .i64 mem, bv, gv] 35)).drew) := by
  refine ⟨?_, ?_, ?_, ?_, ?_, ?_, (below1 w _).drew⟩ <;> simp
end
theorem mk43 (n : Nat) (w : World) : (Instr.makeMap 43 (some (.int .i64 (n : Int)))).run Try.prog w = .ok (.map (some w.heap.size)) (w.alloc (.map #[] 0)) := by
  simp [Instr.makeMap, run_underlying Try.underlying43, asInt, asIntOf, Result.andThen]
theorem mk52 (n : Nat) (w : World) : (Instr.makeMap 52 (some (.int .i64 (n : Int)))).run Try.prog w = .ok (.map (some w.heap.size)) (w.alloc (.map #[] 0)) := by
  simp [Instr.makeMap, run_underlying Try.underlying52, asInt, asIntOf, Result.andThen]
theorem mk59 (n : Nat) (w : World) : (Instr.makeMap 59 (some (.int .i64 (n : Int)))).run Try.prog w = .ok (.map (some w.heap.size)) (w.alloc (.map #[] 0)) := by
  simp [Instr.makeMap, run_underlying Try.underlying59, asInt, asIntOf, Result.andThen]
theorem gr_alloc {W X : World} (h : Below W.heap.size W X) (o : Obj) : Below W.heap.size W (X.alloc o) := h.trans ((below1 X o).mono h.size)
theorem gr_below {W X Y : World} (h : Below W.heap.size W X) (k : Below X.heap.size X Y) : Below W.heap.size W Y := h.trans (k.mono h.size)
theorem gr_drew {W X : World} (h : Below W.heap.size W X) : Below W.heap.size W X.drew := h.drew
theorem Tal.drew {lo : Nat} {wr : World} {tb lb bb gb : Nat} {tok mem : Int} {ml mb : List (ByteArray × Value)} {mg : List (Int × Value)} {ra : Option Addr} {rc rn : Nat} {R : Nat → Nat → Value} (h : Tal lo wr tb lb bb gb tok mem ml mb mg ra rc rn R) : Tal lo wr.drew tb lb bb gb tok mem ml mb mg ra rc rn R := h.keep (fun _ _ _ => rfl)
theorem map_new_keep {κ : Type} {enc : κ → Value} (W : World) {F : World} (h : Below (W.alloc (.map #[] 0)).heap.size (W.alloc (.map #[] 0)) F) : MapAt enc F W.heap.size [] := (MapAt.new W).keep h (by simp)
theorem recs_keep {w F : World} {a : Option Addr} {sz n : Nat} {G : Nat → Nat → Value} (h : Recs w a sz n G) (hb : Below w.heap.size w F) : Recs F a sz n G := h.below hb

/-- An empty map lies in the block. -/
def IsMap (F : World) (b : Nat) : Prop := F.heap[b]? = some (.map #[] 0)
theorem im_new {W : World} {b : Nat} (h : b = W.heap.size) : IsMap (W.alloc (.map #[] 0)) b := by
  subst h
  exact (MapKept.heap_alloc W _).1
theorem im_below {W W' : World} {b : Nat} (h : IsMap W b) (hb : Below W.heap.size W W') : IsMap W' b :=
  (hb.block b ((Array.getElem?_eq_some_iff.1 h).1)).trans h
theorem im_alloc {W : World} {b : Nat} (h : IsMap W b) (o : Obj) : IsMap (W.alloc o) b := im_below h (below1 W o)
theorem cell_top {X : World} {tb : Nat} (h : tb = X.heap.size) (cs : Array Value) (t : TypeId) (j : Nat) : (X.alloc (.cells cs t)).cell? ⟨tb, j, none⟩ = cs[j]? := by
  subst h
  exact World.cell?_alloc_new _ _ _ _
theorem leaf {w F X : World} {p : Value} {lb b1 gb qc rn : Nat} {qa ra : Option Addr} {tok mem : Int} {lv rv bv gv : Value} {R : Nat → Nat → Value} (hF : F = X.alloc (.cells #[.map (some lb), .int .u64 tok, .slice qa rn qc, .int .i64 mem, .map (some b1), .map (some gb)] 74))
    (hs : SB w lv tok rv mem bv gv F) (hnil : qa.isNone = ra.isNone) (hp : p = .pointer (some ⟨X.heap.size, 0, none⟩)) (m1 : IsMap F lb) (m2 : IsMap F b1) (m3 : IsMap F gb) (hr : Recs F qa 3 rn R) (hn : lb ≠ b1 ∧ lb ≠ gb ∧ b1 ≠ gb ∧ w.heap.size ≤ X.heap.size ∧ w.heap.size ≤ lb ∧ w.heap.size ≤ b1 ∧ w.heap.size ≤ gb) (hq : 0 < rn → w.heap.size ≤ blk qa) :
    ∃ tb lb b1 gb qa qc, p = .pointer (some ⟨tb, 0, none⟩) ∧ SB w lv tok rv mem bv gv F ∧ qa.isNone = ra.isNone ∧ Tal w.heap.size F tb lb b1 gb tok mem [] [] [] qa qc rn R := by
  refine ⟨X.heap.size, lb, b1, gb, qa, qc, hp, hs, hnil, ⟨hn.1, hn.2.1, hn.2.2.1, hn.2.2.2.1, hn.2.2.2.2.1, hn.2.2.2.2.2.1, hn.2.2.2.2.2.2, hq, ⟨#[], 0, m1, rfl⟩, ⟨#[], 0, m2, rfl⟩, ⟨#[], 0, m3, rfl⟩, ?_, ?_, ?_, ?_, ?_, ?_, hr⟩⟩
  all_goals
    subst hF
    rw [cell_top rfl]
    rfl

set_option maxRecDepth 100000 in
set_option maxHeartbeats 8000000 in
theorem newTally (la : Option Addr) (ln lc : Nat) (L : Nat → LI) (tok : Int) (ra : Option Addr) (rn rc : Nat) (R : Nat → RI) (mem : Int) (ba : Option Addr) (bn bc : Nat) (B : Nat → BI) (ga : Option Addr) (gn gc : Nat) (G : Nat → GI) (w : World) (inp : Inp w la ln L ra rn R ba bn B ga gn G)
    (nr : ra = none → rn = 0 ∧ rc = 0) (bl : ln ≤ 4096) (br : rn ≤ 4096) (bb : bn ≤ 4096) (bg : gn ≤ 4096) :
    Calls Try.prog 8 #[.agg #[.slice la ln lc, .int .u64 tok, .slice ra rn rc, .int .i64 mem, .slice ba bn bc, .slice ga gn gc]] w (TalRet w ln L tok ra rn R mem bn B gn G) := by
  have IN := hide inp
  clear inp
  have NR := hide nr
  clear nr
  go_enter Try.func8, Try.ntmps8
  go_upto_region 1 with fail
  go_cut [3] from 10 to 30 (fun p wc => ∃ tb lb b1 gb qa qc, p = .pointer (some ⟨tb, 0, none⟩) ∧ SB w (.slice la ln lc) tok (.slice ra rn rc) mem (.slice ba bn bc) (.slice ga gn gc) wc ∧ qa.isNone = ra.isNone ∧ Tal w.heap.size wc tb lb b1 gb tok mem [] [] [] qa qc rn (fun i => (R i).c))
  case first =>
    skip
    have m43 := mk43 ln
    have m52 := mk52 bn
    have m59 := mk59 gn
    go_region_held3 (fun w' => w'.cell? ⟨w.heap.size, 0, none⟩ = some (.slice la ln lc) ∧ w'.cell? ⟨w.heap.size, 1, none⟩ = some (.int .u64 tok) ∧ w'.cell? ⟨w.heap.size, 2, none⟩ = some (.slice ra rn rc) ∧ w'.cell? ⟨w.heap.size, 3, none⟩ = some (.int .i64 mem) ∧ w'.cell? ⟨w.heap.size, 4, none⟩ = some (.slice ba bn bc) ∧ w'.cell? ⟨w.heap.size, 5, none⟩ = some (.slice ga gn gc) ∧ Hid (Below w.heap.size w w')) (first | exact SB.start _ _ _ _ _ _ _ | exact SB.alloc (by assumption) _ | exact SB.below (by assumption) (by assumption))
      (first | (go_at_call 22; refine (clone ra rn rc R _ (IN.out.r.below (SB.bel (w := w) (lv := .slice la ln lc) (tok := tok) (rv := .slice ra rn rc) (mem := mem) (bv := .slice ba bn bc) (gv := .slice ga gn gc) (by assumption))) (by omega) NR.out).mono ?_; rintro e w' ⟨qa, qc, rfl, hb, hrec, hnil, hnew⟩))
    all_goals go_wp2_with fail
    all_goals go_meet
    all_goals
      have hz := hb.size
      simp only [World.size_alloc, World.size_drew] at hz hnew
      refine leaf rfl ?_ hnil ?_ ?_ ?_ ?_ (recs_keep hrec ?_) ?_ ?_
      · assumption
      · simp
      · repeat first | (refine im_new ?_; simp; done) | refine im_alloc ?_ _ | refine im_below ?_ hb
      · repeat first | (refine im_new ?_; simp; done) | refine im_alloc ?_ _ | refine im_below ?_ hb
      · repeat first | (refine im_new ?_; simp; done) | refine im_alloc ?_ _ | refine im_below ?_ hb
      · repeat first | exact Below.refl _ _ | refine gr_alloc ?_ _
      · try simp only [World.size_alloc]
        omega
      · intro h
        have := hnew h
        omega
  case rest =>
    obtain ⟨tb, lb, b1, gb, qa, qc, rfl, hs, hq, ht⟩ := hcut
    have HS := hide hs
    have HQ := hide hq
    have HT := hide ht
    clear hs hq ht
    have sx := HS.out.1
    go_wp2
    clear sx
    go_loopw [34] (fun i wx => ∃ k : Nat, k ≤ ln ∧ i = .int .i64 k ∧ SB w (.slice la ln lc) tok (.slice ra rn rc) mem (.slice ba bn bc) (.slice ga gn gc) wx ∧ Tal w.heap.size wx tb lb b1 gb tok mem (foldL (fun i => (L i).name) (fun i => (L i).agg) k) [] [] qa qc rn (fun i => (R i).c)) (fun i _ => ln - (intOf i).toNat)
    case atStart => exact ⟨0, Nat.zero_le _, rfl, HS.out, HT.out⟩
    case round =>
      clear HS HT
      obtain ⟨k, hk, rfl, hs, ht⟩ := hrel
      have HS := hide hs
      have HT := hide ht
      clear hs ht
      by_cases hlt : k < ln
      · have hidx := fun w => run_index_at (P := Try.prog) (c := lc) Try.underlying29 size47 IN.out.l.pl hlt w
        have i0 : w.cell? ⟨blk la, ofs la + k * 6, none⟩ = some (.string (L k).name) := IN.out.l.c k hlt 0 (by omega)
        have i0 := cell_below HS.out.bel i0 (IN.out.l.lt k hlt (by omega))
        have i1 : w.cell? ⟨blk la, ofs la + k * 6 + 1, none⟩ = some (.string (L k).holder) := IN.out.l.c k hlt 1 (by omega)
        have i1 := cell_below HS.out.bel i1 (IN.out.l.lt k hlt (by omega))
        have i2 : w.cell? ⟨blk la, ofs la + k * 6 + 2, none⟩ = some (.int .u64 (L k).token) := IN.out.l.c k hlt 2 (by omega)
        have i2 := cell_below HS.out.bel i2 (IN.out.l.lt k hlt (by omega))
        have i3 : w.cell? ⟨blk la, ofs la + k * 6 + 3, none⟩ = some (.int .i64 (L k).ttl) := IN.out.l.c k hlt 3 (by omega)
        have i3 := cell_below HS.out.bel i3 (IN.out.l.lt k hlt (by omega))
        have i4 : w.cell? ⟨blk la, ofs la + k * 6 + 4, none⟩ = some (.int .i64 (L k).rem) := IN.out.l.c k hlt 4 (by omega)
        have i4 := cell_below HS.out.bel i4 (IN.out.l.lt k hlt (by omega))
        have i5 : w.cell? ⟨blk la, ofs la + k * 6 + 5, none⟩ = some (.string (L k).key) := IN.out.l.c k hlt 5 (by omega)
        have i5 := cell_below HS.out.bel i5 (IN.out.l.lt k hlt (by omega))
        obtain ⟨W, hW⟩ : ∃ W, W = wr.alloc (.cells #[.string (L k).name, .string (L k).holder, .int .u64 (L k).token, .int .i64 (L k).ttl, .int .i64 (L k).rem, .string (L k).key] 47) := ⟨_, rfl⟩
        have gW : Below wr.heap.size wr W := by rw [hW]; exact below1 _ _
        have HWT := hide (HT.out.grow gW)
        have HWS := hide (HS.out.below gW)
        have y0 : W.cell? ⟨wr.heap.size, 0, none⟩ = some (.string (L k).name) := by rw [hW]; simp
        have y1 : W.cell? ⟨wr.heap.size, 1, none⟩ = some (.string (L k).holder) := by rw [hW]; simp
        have y2 : W.cell? ⟨wr.heap.size, 2, none⟩ = some (.int .u64 (L k).token) := by rw [hW]; simp
        have y3 : W.cell? ⟨wr.heap.size, 3, none⟩ = some (.int .i64 (L k).ttl) := by rw [hW]; simp
        have y4 : W.cell? ⟨wr.heap.size, 4, none⟩ = some (.int .i64 (L k).rem) := by rw [hW]; simp
        have y5 : W.cell? ⟨wr.heap.size, 5, none⟩ = some (.string (L k).key) := by rw [hW]; simp
        obtain ⟨o, hput, hmap⟩ := run_put (P := Try.prog) encS Try.underlying43 Try.underlying9 HWT.out.drew.l (L k).name (L k).agg
        have hput : (Instr.mapUpdate 43 (.map (some lb)) (.string (L k).name) (.agg #[.string (L k).name, .string (L k).holder, .int .u64 (L k).token, .int .i64 (L k).ttl, .int .i64 (L k).rem, .string (L k).key])).run Try.prog W.drew = .ok () (putObj W.drew lb o) := hput
        have HM := hide hmap
        have x0 := HWT.out.c0
        clear hmap gW
        go_wp2
        rw [← hW]
        clear hW
        refine wp_region_still_tail 7 (by kernel_rfl) (by kernel_rfl) ?_
        simp only [List.take_succ_cons, List.take_zero, List.drop_succ_cons, List.drop_zero]
        iterate 7 still_step
        refine wpStill_nil ?_
        rw [show ({ W with drawn := W.drawn + 1 } : World) = W.drew from rfl]
        go_wp2
        go_roundw
        case rel => exact ⟨k + 1, by omega, by go_num, HWS.out.drew.putObj HWT.out.drew.l HWT.out.ol o, HWT.out.drew.putL HM.out⟩
        case measure => simp [intOf]; omega
      · obtain rfl : ln = k := by omega
        clear hlt hk
        have sx := HS.out.2.2.2.2.1
        go_wp2
        clear sx
        go_loopw [49] (fun i wx => ∃ k : Nat, k ≤ bn ∧ i = .int .i64 k ∧ SB w (.slice la ln lc) tok (.slice ra rn rc) mem (.slice ba bn bc) (.slice ga gn gc) wx ∧ Tal w.heap.size wx tb lb b1 gb tok mem (foldL (fun i => (L i).name) (fun i => (L i).agg) ln) (foldL (fun i => (B i).name) (fun i => (B i).agg) k) [] qa qc rn (fun i => (R i).c)) (fun i _ => bn - (intOf i).toNat)
        case atStart => exact ⟨0, Nat.zero_le _, rfl, HS.out, HT.out⟩
        case round =>
          clear HS HT
          obtain ⟨k, hk, rfl, hs, ht⟩ := hrel
          have HS := hide hs
          have HT := hide ht
          clear hs ht
          by_cases hlt : k < bn
          · have hidx := fun w => run_index_at (P := Try.prog) (c := bc) Try.underlying32 size56 IN.out.b.pl hlt w
            have i0 : w.cell? ⟨blk ba, ofs ba + k * 3, none⟩ = some (.string (B k).name) := IN.out.b.c k hlt 0 (by omega)
            have i0 := cell_below HS.out.bel i0 (IN.out.b.lt k hlt (by omega))
            have i1 : w.cell? ⟨blk ba, ofs ba + k * 3 + 1, none⟩ = some (.int .u64 (B k).units) := IN.out.b.c k hlt 1 (by omega)
            have i1 := cell_below HS.out.bel i1 (IN.out.b.lt k hlt (by omega))
            have i2 : w.cell? ⟨blk ba, ofs ba + k * 3 + 2, none⟩ = some (.int .u64 (B k).granted) := IN.out.b.c k hlt 2 (by omega)
            have i2 := cell_below HS.out.bel i2 (IN.out.b.lt k hlt (by omega))
            obtain ⟨W, hW⟩ : ∃ W, W = wr.alloc (.cells #[.string (B k).name, .int .u64 (B k).units, .int .u64 (B k).granted] 56) := ⟨_, rfl⟩
            have gW : Below wr.heap.size wr W := by rw [hW]; exact below1 _ _
            have HWT := hide (HT.out.grow gW)
            have HWS := hide (HS.out.below gW)
            have y0 : W.cell? ⟨wr.heap.size, 0, none⟩ = some (.string (B k).name) := by rw [hW]; simp
            have y1 : W.cell? ⟨wr.heap.size, 1, none⟩ = some (.int .u64 (B k).units) := by rw [hW]; simp
            have y2 : W.cell? ⟨wr.heap.size, 2, none⟩ = some (.int .u64 (B k).granted) := by rw [hW]; simp
            obtain ⟨o, hput, hmap⟩ := run_put (P := Try.prog) encS Try.underlying52 Try.underlying9 HWT.out.drew.b (B k).name (B k).agg
            have hput : (Instr.mapUpdate 52 (.map (some b1)) (.string (B k).name) (.agg #[.string (B k).name, .int .u64 (B k).units, .int .u64 0])).run Try.prog W.drew = .ok () (putObj W.drew b1 o) := hput
            have HM := hide hmap
            have x0 := HWT.out.c4
            clear hmap gW
            go_wp2
            rw [← hW]
            clear hW
            refine wp_region_still_tail 11 (by kernel_rfl) (by kernel_rfl) ?_
            simp only [List.take_succ_cons, List.take_zero, List.drop_succ_cons, List.drop_zero]
            iterate 11 still_step
            refine wpStill_nil ?_
            rw [show ({ W with drawn := W.drawn + 1 } : World) = W.drew from rfl]
            go_wp2
            go_roundw
            case rel => exact ⟨k + 1, by omega, by go_num, HWS.out.drew.putObj HWT.out.drew.b HWT.out.ob o, HWT.out.drew.putB HM.out⟩
            case measure => simp [intOf]; omega
          · obtain rfl : bn = k := by omega
            clear hlt hk
            have sx := HS.out.2.2.2.2.2.1
            go_wp2
            clear sx
            go_loopw [68] (fun i wx => ∃ k : Nat, k ≤ gn ∧ i = .int .i64 k ∧ SB w (.slice la ln lc) tok (.slice ra rn rc) mem (.slice ba bn bc) (.slice ga gn gc) wx ∧ Tal w.heap.size wx tb lb b1 gb tok mem (foldL (fun i => (L i).name) (fun i => (L i).agg) ln) (foldL (fun i => (B i).name) (fun i => (B i).agg) bn) (foldL (fun i => (G i).token) (fun i => (G i).agg) k) qa qc rn (fun i => (R i).c)) (fun i _ => gn - (intOf i).toNat)
            case atStart => exact ⟨0, Nat.zero_le _, rfl, HS.out, HT.out⟩
            case round =>
              clear HS HT
              obtain ⟨k, hk, rfl, hs, ht⟩ := hrel
              have HS := hide hs
              have HT := hide ht
              clear hs ht
              by_cases hlt : k < gn
              · have hidx := fun w => run_index_at (P := Try.prog) (c := gc) Try.underlying33 size63 IN.out.g.pl hlt w
                have i0 : w.cell? ⟨blk ga, ofs ga + k * 7, none⟩ = some (.string (G k).budget) := IN.out.g.c k hlt 0 (by omega)
                have i0 := cell_below HS.out.bel i0 (IN.out.g.lt k hlt (by omega))
                have i1 : w.cell? ⟨blk ga, ofs ga + k * 7 + 1, none⟩ = some (.string (G k).holder) := IN.out.g.c k hlt 1 (by omega)
                have i1 := cell_below HS.out.bel i1 (IN.out.g.lt k hlt (by omega))
                have i2 : w.cell? ⟨blk ga, ofs ga + k * 7 + 2, none⟩ = some (.int .u64 (G k).token) := IN.out.g.c k hlt 2 (by omega)
                have i2 := cell_below HS.out.bel i2 (IN.out.g.lt k hlt (by omega))
                have i3 : w.cell? ⟨blk ga, ofs ga + k * 7 + 3, none⟩ = some (.int .u64 (G k).units) := IN.out.g.c k hlt 3 (by omega)
                have i3 := cell_below HS.out.bel i3 (IN.out.g.lt k hlt (by omega))
                have i4 : w.cell? ⟨blk ga, ofs ga + k * 7 + 4, none⟩ = some (.int .i64 (G k).ttl) := IN.out.g.c k hlt 4 (by omega)
                have i4 := cell_below HS.out.bel i4 (IN.out.g.lt k hlt (by omega))
                have i5 : w.cell? ⟨blk ga, ofs ga + k * 7 + 5, none⟩ = some (.int .i64 (G k).rem) := IN.out.g.c k hlt 5 (by omega)
                have i5 := cell_below HS.out.bel i5 (IN.out.g.lt k hlt (by omega))
                have i6 : w.cell? ⟨blk ga, ofs ga + k * 7 + 6, none⟩ = some (.string (G k).key) := IN.out.g.c k hlt 6 (by omega)
                have i6 := cell_below HS.out.bel i6 (IN.out.g.lt k hlt (by omega))
                obtain ⟨W, hW⟩ : ∃ W, W = wr.alloc (.cells #[.string (G k).budget, .string (G k).holder, .int .u64 (G k).token, .int .u64 (G k).units, .int .i64 (G k).ttl, .int .i64 (G k).rem, .string (G k).key] 63) := ⟨_, rfl⟩
                have gW : Below wr.heap.size wr W := by rw [hW]; exact below1 _ _
                have HWT := hide (HT.out.grow gW)
                have HWS := hide (HS.out.below gW)
                have y0 : W.cell? ⟨wr.heap.size, 0, none⟩ = some (.string (G k).budget) := by rw [hW]; simp
                have y1 : W.cell? ⟨wr.heap.size, 1, none⟩ = some (.string (G k).holder) := by rw [hW]; simp
                have y2 : W.cell? ⟨wr.heap.size, 2, none⟩ = some (.int .u64 (G k).token) := by rw [hW]; simp
                have y3 : W.cell? ⟨wr.heap.size, 3, none⟩ = some (.int .u64 (G k).units) := by rw [hW]; simp
                have y4 : W.cell? ⟨wr.heap.size, 4, none⟩ = some (.int .i64 (G k).ttl) := by rw [hW]; simp
                have y5 : W.cell? ⟨wr.heap.size, 5, none⟩ = some (.int .i64 (G k).rem) := by rw [hW]; simp
                have y6 : W.cell? ⟨wr.heap.size, 6, none⟩ = some (.string (G k).key) := by rw [hW]; simp
                obtain ⟨o, hput, hmap⟩ := run_put (P := Try.prog) encI Try.underlying59 Try.underlying23 HWT.out.drew.g (G k).token (G k).agg
                have hput : (Instr.mapUpdate 59 (.map (some gb)) (.int .u64 (G k).token) (.agg #[.string (G k).budget, .string (G k).holder, .int .u64 (G k).token, .int .u64 (G k).units, .int .i64 (G k).ttl, .int .i64 (G k).rem, .string (G k).key])).run Try.prog W.drew = .ok () (putObj W.drew gb o) := hput
                have HM := hide hmap
                have x0 := HWT.out.c5
                clear hmap gW
                go_wp2
                rw [← hW]
                clear hW
                refine wp_region_still_tail 7 (by kernel_rfl) (by kernel_rfl) ?_
                simp only [List.take_succ_cons, List.take_zero, List.drop_succ_cons, List.drop_zero]
                iterate 7 still_step
                refine wpStill_nil ?_
                rw [show ({ W with drawn := W.drawn + 1 } : World) = W.drew from rfl]
                go_wp2
                go_roundw
                case rel => exact ⟨k + 1, by omega, by go_num, HWS.out.drew.putObj HWT.out.drew.g HWT.out.og o, HWT.out.drew.putG HM.out⟩
                case measure => simp [intOf]; omega
              · obtain rfl : gn = k := by omega
                clear hlt hk
                go_wp2
                go_ret
                exact ⟨tb, lb, b1, gb, qa, qc, rfl, HS.out.bel, HQ.out, HT.out⟩
end Go.Proofs.Qxb6628443a
