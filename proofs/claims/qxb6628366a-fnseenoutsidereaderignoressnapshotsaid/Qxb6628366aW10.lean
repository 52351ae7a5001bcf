import Derived.Test.Qxb6628366aW9
namespace Go.Proofs.Qxb6628366a
open Go.RowKit

theorem Fam.four {w : World} {va : Option Addr} {m : Nat} (h : Fam w va m) (k : Nat) (hk : k * 4 + 3 < m) : ∃ y0 y1 y2 y3, w.cell? ⟨blk va, ofs va + k * 4, none⟩ = some y0 ∧ w.cell? ⟨blk va, ofs va + k * 4 + 1, none⟩ = some y1 ∧ w.cell? ⟨blk va, ofs va + k * 4 + 2, none⟩ = some y2 ∧ w.cell? ⟨blk va, ofs va + k * 4 + 3, none⟩ = some y3 ∧
    w.frozen? ⟨blk va, ofs va + k * 4, none⟩ = false ∧ w.frozen? ⟨blk va, ofs va + k * 4 + 1, none⟩ = false ∧ w.frozen? ⟨blk va, ofs va + k * 4 + 2, none⟩ = false ∧ w.frozen? ⟨blk va, ofs va + k * 4 + 3, none⟩ = false := by
  obtain ⟨y0, h0⟩ := h.is (k * 4) (by omega)
  obtain ⟨y1, h1⟩ := h.is (k * 4 + 1) (by omega)
  obtain ⟨y2, h2⟩ := h.is (k * 4 + 2) (by omega)
  obtain ⟨y3, h3⟩ := h.is (k * 4 + 3) (by omega)
  exact ⟨y0, y1, y2, y3, h0, h1, h2, h3, h.fr (k * 4) (by omega), h.fr (k * 4 + 1) (by omega), h.fr (k * 4 + 2) (by omega), h.fr (k * 4 + 3) (by omega)⟩

theorem buildRet_of {w wr w1 : World} {h : LVer} {on : Nat} {V : Nat → LVer} {sn : Nat} {S : Nat → Bool} {wa va ga : Option Addr} {p : Nat → Nat} {G : Nat → Option Addr} (hb0 : Below w.heap.size w wr) (don : OwnersIn wr wa sn p S) (hb : Below wr.heap.size wr w1) (hrow : RowIn w1 ga h.rn h.row)
    (hnil : ga.isNone = h.ra.isNone) (pl : Pl va on) (bv : BVers wr va on V p sn G) :
    BuildRet w h on V sn S (.returned (.tuple #[.pointer (some ⟨w1.heap.size + 1, 0, none⟩), .slice wa sn sn]))
      ((w1.alloc (.cells #[.slice ga h.rn h.rn, .bool h.ghost, .pointer (wptr p sn h.writer), .int .u64 h.com] 40)).alloc (.cells #[.slice ga h.rn h.rn, .bool h.ghost, .pointer (wptr p sn h.writer), .int .u64 h.com, .slice va on on] 55)) := by
  have b2 := below2 w1 (.cells #[.slice ga h.rn h.rn, .bool h.ghost, .pointer (wptr p sn h.writer), .int .u64 h.com] 40) (.cells #[.slice ga h.rn h.rn, .bool h.ghost, .pointer (wptr p sn h.writer), .int .u64 h.com, .slice va on on] 55)
  have hs := hb.size
  have hs0 := hb0.size
  have b3 := hb.trans (b2.mono hs)
  refine ⟨w1.heap.size + 1, wa, p, ga, va, G, rfl, hb0.trans (b3.mono hs0), don.below b3, ⟨?_, ?_, ?_, ?_, ?_, hrow.below b2, hnil, pl, bv.below b3⟩⟩ <;>
  · rw [World.cell?_alloc_at _ _ _ _ (by simp)]; rfl

set_option maxRecDepth 100000 in
set_option maxHeartbeats 4000000 in
theorem build (h : LVer) (oa : Option Addr) (on oc : Nat) (V : Nat → LVer) (sa : Option Addr) (sn sc : Nat) (S : Nat → Bool) (w : World)
    (hh : RowIn w h.ra h.rn h.row) (hz : h.ra = none → h.rn = 0 ∧ h.rc = 0) (ho : VersIn w oa on V) (hzo : oa = none → on = 0) (hzv : ∀ i, i < on → (V i).ra = none → (V i).rn = 0 ∧ (V i).rc = 0) (hs : BoolsIn w sa sn S) (sm : Small h on V sn) :
    Calls Try.prog 8 #[.agg #[.slice h.ra h.rn h.rc, .bool h.ghost, .int .i64 h.writer, .int .u64 h.com], .slice oa on oc, .slice sa sn sc] w (BuildRet w h on V sn S) := by
  have HH : Hid (RowIn w h.ra h.rn h.row) := hh
  have HZ : Hid (h.ra = none → h.rn = 0 ∧ h.rc = 0) := hz
  have HO : Hid (VersIn w oa on V) := ho
  have HZO : Hid (oa = none → on = 0) := hzo
  have HZV : Hid (∀ i, i < on → (V i).ra = none → (V i).rn = 0 ∧ (V i).rc = 0) := hzv
  have HS : Hid (BoolsIn w sa sn S) := hs
  have SM : Hid (Small h on V sn) := sm
  have bs := sm.sl
  have bo := sm.ol
  have bh := sm.hr
  clear hh hz ho hzo hzv hs sm
  have hmk := make35 sn bs (w.alloc (Obj.cells #[Value.slice h.ra h.rn h.rc, Value.bool h.ghost, Value.int IntKind.i64 h.writer, Value.int IntKind.u64 h.com] 25))
  obtain ⟨wa, hwa⟩ : ∃ wa, wa = some (⟨(w.alloc (Obj.cells #[Value.slice h.ra h.rn h.rc, Value.bool h.ghost, Value.int IntKind.i64 h.writer, Value.int IntKind.u64 h.com] 25)).heap.size, 0, none⟩ : Addr) := ⟨_, rfl⟩
  rw [← hwa] at hmk
  have HW : Hid (wa = some (⟨(w.alloc (Obj.cells #[Value.slice h.ra h.rn h.rc, Value.bool h.ghost, Value.int IntKind.i64 h.writer, Value.int IntKind.u64 h.com] 25)).heap.size, 0, none⟩ : Addr)) := hwa
  clear hwa
  have hneq := fun w => run_neq_slice_nil_any (P := Try.prog) w 26 25 oa on oc 0 0 Try.underlying26
  go_enter Try.func8, Try.ntmps8
  go_wp2
  go_loopw [9] (fun i wr => ∃ k : Nat, k ≤ sn ∧ i = .int .i64 k ∧ Own1 (w.alloc (Obj.cells #[Value.slice h.ra h.rn h.rc, Value.bool h.ghost, Value.int IntKind.i64 h.writer, Value.int IntKind.u64 h.com] 25)) wr wa sn S k) (fun i _ => sn - (intOf i).toNat)
  case atStart => exact ⟨0, Nat.zero_le _, rfl, Own1.start _ _ _ _ _ _ HW.out⟩
  case round =>
    obtain ⟨k, hk, rfl, hown⟩ := hrel
    have HOW := hown
    clear hown
    by_cases hlt : k < sn
    · have hidx := fun w => run_index_at (P := Try.prog) (c := sc) Try.underlying27 size4 HS.out.pl hlt w
      have hidg := fun w => run_index_at (P := Try.prog) (c := sn) (a := wa) (n := sn) Try.underlying32 size35 (fun _ => by rw [HW.out]; rfl) hlt w
      have hls := HS.out.lt k hlt
      have s0 := cell_below ((below1 w _).trans (HOW.bel.mono (by simp))) (HS.out.c0 k hlt) hls
      obtain ⟨v0, d0⟩ := HOW.fam.is k hlt
      have f0 := HOW.fam.fr k hlt
      have hl0 : blk wa < wr.heap.size := by have := lt_of_cell d0; exact this
      go_wp2_with (go_at_call 16; refine (newOwner _ _).mono ?_; rintro e w' ⟨rfl, rfl⟩)
      go_roundw
      case rel => exact ⟨k + 1, by omega, by go_num, HOW.step hlt HW.out _ rfl⟩
      case measure => simp [intOf]; omega
    · obtain rfl : sn = k := by omega
      have hb0 : Below w.heap.size w wr := (below1 w _).trans (HOW.bel.mono (by simp))
      have q0 : wr.cell? ⟨w.heap.size, 0, none⟩ = some (.slice h.ra h.rn h.rc) := (HOW.bel.cell (p := ⟨w.heap.size, 0, none⟩) (by simp)).trans (World.cell?_alloc_new _ _ _ _)
      have q1 : wr.cell? ⟨w.heap.size, 1, none⟩ = some (.bool h.ghost) := (HOW.bel.cell (p := ⟨w.heap.size, 1, none⟩) (by simp)).trans (World.cell?_alloc_new _ _ _ _)
      have q2 : wr.cell? ⟨w.heap.size, 2, none⟩ = some (.int .i64 h.writer) := (HOW.bel.cell (p := ⟨w.heap.size, 2, none⟩) (by simp)).trans (World.cell?_alloc_new _ _ _ _)
      have q3 : wr.cell? ⟨w.heap.size, 3, none⟩ = some (.int .u64 h.com) := (HOW.bel.cell (p := ⟨w.heap.size, 3, none⟩) (by simp)).trans (World.cell?_alloc_new _ _ _ _)
      have hlw : w.heap.size < wr.heap.size := by have := HOW.size; simp at this; omega
      obtain ⟨p, DON⟩ : ∃ p, OwnersIn wr wa sn p S := ⟨_, HOW.done HW.out⟩
      have HB0 : Hid (Below w.heap.size w wr) := hb0
      clear HOW hb0 hmk hlt hk
      cases hn : oa.isNone
      · have hmk2 := make40 on bo wr
        obtain ⟨va, hva⟩ : ∃ va, va = some (⟨wr.heap.size, 0, none⟩ : Addr) := ⟨_, rfl⟩
        rw [← hva] at hmk2
        have HV : Hid (va = some (⟨wr.heap.size, 0, none⟩ : Addr)) := hva
        clear hva
        go_wp2
        obtain ⟨W, rfl⟩ : ∃ W : World, W = wr := ⟨_, rfl⟩
        go_loopw [11] (fun i wx => ∃ (k : Nat) (G : Nat → Option Addr), k ≤ on ∧ i = .int .i64 k ∧ Vers2 W wx va on V p sn G k) (fun i _ => on - (intOf i).toNat)
        case atStart => exact ⟨0, _, Nat.zero_le _, rfl, Vers2.start _ _ _ _ _ _ _ _ HV.out⟩
        case round =>
          obtain ⟨k, G, hk, rfl, hv2⟩ := hrel
          have HV2 := hv2
          clear hv2
          have BEL : Hid (Below w.heap.size w wr) := HB0.out.trans (HV2.bel.mono HB0.out.size)
          have DN := DON.below HV2.bel
          by_cases hlt : k < on
          · have hidx := fun w => run_index_at (P := Try.prog) (c := oc) Try.underlying26 size25 HO.out.pl hlt w
            have hidg := fun w => run_index_at (P := Try.prog) (c := on) (a := va) (n := on) Try.underlying51 size40 (fun _ => by rw [HV.out]; rfl) hlt w
            have hlo := HO.out.lt k hlt
            have s0 := cell_below BEL.out (HO.out.c0 k hlt) hlo
            have s1 := cell_below BEL.out (HO.out.c1 k hlt) hlo
            have s2 := cell_below BEL.out (HO.out.c2 k hlt) hlo
            have s3 := cell_below BEL.out (HO.out.c3 k hlt) hlo
            go_wp2_with (go_at_call 17; refine (toVersion (V k) wa sn p S _ ((HO.out.row k hlt).below BEL.out) (SM.out.vr k hlt) (HZV.out k hlt) DN).mono ?_; rintro e w1 ⟨ga, rfl, hb, hrow, hnil, hnew⟩; obtain ⟨y0, y1, y2, y3, d0, d1, d2, d3, f0, f1, f2, f3⟩ := (HV2.fam.below hb).four k (by omega))
            go_roundw
            case rel => exact ⟨k + 1, _, by omega, by go_num, HV2.step hlt HV.out hb hrow hnil hnew⟩
            case measure => simp [intOf]; omega
          · obtain rfl : on = k := by omega
            have q0' : wr.cell? ⟨w.heap.size, 0, none⟩ = some (.slice h.ra h.rn h.rc) := cell_below HV2.bel q0 hlw
            have q1' : wr.cell? ⟨w.heap.size, 1, none⟩ = some (.bool h.ghost) := cell_below HV2.bel q1 hlw
            have q2' : wr.cell? ⟨w.heap.size, 2, none⟩ = some (.int .i64 h.writer) := cell_below HV2.bel q2 hlw
            have q3' : wr.cell? ⟨w.heap.size, 3, none⟩ = some (.int .u64 h.com) := cell_below HV2.bel q3 hlw
            have BV : Hid (BVers wr va on V p sn G) := HV2.bv
            clear HV2 DON HB0 q0 q1 q2 q3 hlw hmk2 hlt hk
            go_wp2_with (first
              | (go_at_call 17; refine (toVersion h wa sn p S _ (HH.out.below BEL.out) bh HZ.out DN).mono ?_; rintro e w1 ⟨ga, rfl, hb, hrow, hnil, hnew⟩)
              | (go_at_call 18; refine (newEntry _ _ _ _ _ _ _ _ _ _).mono ?_; rintro e w' ⟨rfl, rfl⟩))
            go_ret2
            exact buildRet_of BEL.out DN hb hrow hnil (fun _ => by rw [HV.out]; rfl) BV.out
      · have HE : Hid (on = 0) := HZO.out (by simpa using hn)
        go_wp2_with (first
          | (go_at_call 17; refine (toVersion h wa sn p S _ (HH.out.below HB0.out) bh HZ.out DON).mono ?_; rintro e w1 ⟨ga, rfl, hb, hrow, hnil, hnew⟩)
          | (go_at_call 18; refine (newEntry _ _ _ _ _ _ _ _ _ _).mono ?_; rintro e w' ⟨rfl, rfl⟩))
        go_ret2
        obtain rfl := HE.out
        exact buildRet_of (G := fun _ => none) HB0.out DON hb hrow hnil (fun h => by omega) ⟨fun i hi => by omega, fun i hi => by omega, fun i hi => by omega, fun i hi => by omega, fun i hi => by omega, fun i hi => by omega⟩
end Go.Proofs.Qxb6628366a
