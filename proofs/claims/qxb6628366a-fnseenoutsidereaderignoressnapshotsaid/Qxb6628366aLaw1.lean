import Derived.Test.Qxb6628366aPlain
import Derived.Test.Qxb6628366aW13
import Derived.Test.Qxb6628366aW2
import Derived.Test.Qxb6628366aW3
namespace Go.Proofs.Qxb6628366a
open Go.RowKit

theorem hide {p : Prop} (h : p) : Hid p := h

/-- All that comes in. -/
structure Inp (w : World) (h : LVer) (oa : Option Addr) (on : Nat) (V : Nat → LVer) (sa : Option Addr) (sn : Nat) (S : Nat → Bool) : Prop where
  hh : RowIn w h.ra h.rn h.row
  hz : h.ra = none → h.rn = 0 ∧ h.rc = 0
  ho : VersIn w oa on V
  hzo : oa = none → on = 0
  hzv : ∀ i, i < on → (V i).ra = none → (V i).rn = 0 ∧ (V i).rc = 0
  hs : BoolsIn w sa sn S
  bh : h.rn ≤ maxLen
  bo : on ≤ maxLen
  bs : sn ≤ maxLen
  bv : ∀ i, i < on → (V i).rn ≤ maxLen
theorem Inp.below {w w' : World} {h : LVer} {oa : Option Addr} {on : Nat} {V : Nat → LVer} {sa : Option Addr} {sn : Nat} {S : Nat → Bool} (i : Inp w h oa on V sa sn S) (hb : Below w.heap.size w w') : Inp w' h oa on V sa sn S :=
  ⟨i.hh.below hb, i.hz, i.ho.below hb, i.hzo, i.hzv, i.hs.below hb, i.bh, i.bo, i.bs, i.bv⟩

/-- The first parameter's own variable, in the midst of the law. -/
structure Top (w wr : World) (h : LVer) : Prop where
  bel : Below w.heap.size w wr
  lt : w.heap.size < wr.heap.size
  q0 : wr.cell? ⟨w.heap.size, 0, none⟩ = some (.slice h.ra h.rn h.rc)
  q1 : wr.cell? ⟨w.heap.size, 1, none⟩ = some (.bool h.ghost)
  q2 : wr.cell? ⟨w.heap.size, 2, none⟩ = some (.int .i64 h.writer)
  q3 : wr.cell? ⟨w.heap.size, 3, none⟩ = some (.int .u64 h.com)
theorem Top.start (w : World) (h : LVer) : Top w (w.alloc (Obj.cells #[Value.slice h.ra h.rn h.rc, Value.bool h.ghost, Value.int IntKind.i64 h.writer, Value.int IntKind.u64 h.com] 25)) h :=
  ⟨below1 _ _, by simp, by simp, by simp, by simp, by simp⟩
theorem Top.next {w wr w1 : World} {h : LVer} (t : Top w wr h) (hb : Below wr.heap.size wr w1) : Top w w1 h :=
  ⟨t.bel.trans (hb.mono (Nat.le_of_lt t.lt)), Nat.lt_of_lt_of_le t.lt hb.size, cell_below hb t.q0 t.lt, cell_below hb t.q1 t.lt, cell_below hb t.q2 t.lt, cell_below hb t.q3 t.lt⟩

theorem EntryIn.at {w : World} {eb : Nat} {h : LVer} {on : Nat} {V : Nat → LVer} {p : Nat → Nat} {n : Int} {ga va : Option Addr} {G : Nat → Option Addr} (e : EntryIn w eb h on V p n ga va G) {j : Nat} (hj : j < on + 1) :
    RowIn w (vrow ga on G j) (ver h on V j).rn (ver h on V j).row ∧ (vrow ga on G j).isNone = (ver h on V j).ra.isNone := by
  by_cases e1 : j = on
  · subst e1; unfold vrow ver; rw [if_pos rfl, if_pos rfl]; exact ⟨e.row, e.nil⟩
  · unfold vrow ver; rw [if_neg e1, if_neg e1]; exact ⟨e.bv.row j (by omega), e.bv.nil j (by omega)⟩
theorem Inp.at {w : World} {h : LVer} {oa : Option Addr} {on : Nat} {V : Nat → LVer} {sa : Option Addr} {sn : Nat} {S : Nat → Bool} (i : Inp w h oa on V sa sn S) {j : Nat} (hj : j < on + 1) : RowIn w (ver h on V j).ra (ver h on V j).rn (ver h on V j).row := by
  by_cases e1 : j = on
  · subst e1; unfold ver; rw [if_pos rfl]; exact i.hh
  · unfold ver; rw [if_neg e1]; exact i.ho.row j (by omega)
theorem Small.at {h : LVer} {on : Nat} {V : Nat → LVer} {sn : Nat} (s : Small h on V sn) {j : Nat} (hj : j < on + 1) : (ver h on V j).rn ≤ 1048576 := by
  by_cases e1 : j = on
  · subst e1; unfold ver; rw [if_pos rfl]; exact s.hr
  · unfold ver; rw [if_neg e1]; exact s.vr j (by omega)
/-- A block laid, then a callee that turns nothing old. -/
theorem keepNew {w w1 : World} {c : Array Value} {t : TypeId} (hb : Below (w.alloc (.cells c t)).heap.size (w.alloc (.cells c t)) w1) (j : Nat) : w1.cell? ⟨w.heap.size, j, none⟩ = c[j]? := by
  rw [hb.cell (p := ⟨w.heap.size, j, none⟩) (by simp), World.cell?_alloc_new]
theorem keepNewLt {w w1 : World} {o : Obj} (hb : Below (w.alloc o).heap.size (w.alloc o) w1) : w.heap.size < w1.heap.size := by have := hb.size; simp at this; omega

set_option maxRecDepth 100000 in
set_option maxHeartbeats 4000000 in
theorem law1 (h : LVer) (oa : Option Addr) (on oc : Nat) (V : Nat → LVer) (sa : Option Addr) (sn sc : Nat) (S : Nat → Bool) (rd snap : Int) (w : World) (inp : Inp w h oa on V sa sn S) :
    Calls Try.prog 3 #[.agg #[.slice h.ra h.rn h.rc, .bool h.ghost, .int .i64 h.writer, .int .u64 h.com], .slice oa on oc, .slice sa sn sc, .int .i64 rd, .int .u64 snap] w (Ret1 w (.bool true)) := by
  have t0 := Top.start w h
  go_enter Try.func3, Try.ntmps3
  go_wp2_with fail
  refine (zzBytes5 h oa on oc V sa sn sc rd snap _ (inp.below t0.bel).hh (inp.below t0.bel).ho inp.bh inp.bo inp.bs inp.bv).mono ?_
  rintro e w1 ⟨b, rfl, hb, hsm⟩
  have t1 := t0.next hb
  clear hb t0
  cases b
  · go_wp2
    go_ret
    exact ⟨rfl, t1.bel⟩
  have SM := hsm rfl
  clear hsm
  have q0 := t1.q0
  have q1 := t1.q1
  have q2 := t1.q2
  have q3 := t1.q3
  go_wp2_with fail
  refine (sizeOK h oa on oc V sa sn sc _ (inp.below t1.bel).hh (inp.below t1.bel).ho SM).mono ?_
  rintro e w2 ⟨b, rfl, hb, -⟩
  have t2 := t1.next hb
  clear hb t1 q0 q1 q2 q3
  cases b
  · go_wp2
    go_ret
    exact ⟨rfl, t2.bel⟩
  have q0 := t2.q0
  have q1 := t2.q1
  have q2 := t2.q2
  have q3 := t2.q3
  go_wp2_with fail
  refine (validShape h oa on oc V sn _ (inp.below t2.bel).ho inp.bo).mono ?_
  rintro e w3 ⟨b, rfl, hb, hsh⟩
  have t3 := t2.next hb
  clear hb t2 q0 q1 q2 q3
  cases b
  · go_wp2
    go_ret
    exact ⟨rfl, t3.bel⟩
  have SH := hsh rfl
  clear hsh
  have q0 := t3.q0
  have q1 := t3.q1
  have q2 := t3.q2
  have q3 := t3.q3
  go_wp2_with fail
  refine (build h oa on oc V sa sn sc S _ (inp.below t3.bel).hh inp.hz (inp.below t3.bel).ho inp.hzo inp.hzv (inp.below t3.bel).hs SM).mono ?_
  rintro e w4 ⟨eb, wa, p, ga, va, G, rfl, hb, OW, EN⟩
  have t4 := t3.next hb
  clear hb t3 q0 q1 q2 q3
  cases g1 : own rd sn
  · have hp : wptr p sn rd = none := by simp [wptr, g1]
    go_wp2_with (go_at_call 9; refine (isOwner _ _ _).mono ?_; rintro e w' ⟨rfl, hw⟩; subst hw)
    cases hix : seenIdx S sn h on V rd snap (on + 1) with
    | none =>
      have hsn := seen eb h on V p wa sn S ga va G rd snap _ EN OW SM.ol
      rw [hp, hix] at hsn
      simp only [seenVal] at hsn
      refine hsn.mono ?_
      rintro e w5 ⟨rfl, hb⟩
      have t5 := (t4.next hb).next (below1 w5 (Obj.cells #[Value.slice none 0 0, Value.bool false, Value.pointer none, Value.int IntKind.u64 0] 40))
      have hmod := seenModel h oa on oc V sa sn sc S rd snap _ (inp.below t5.bel).ho (inp.below t5.bel).hs inp.bo SH
      rw [model_eq SH, hix] at hmod
      simp only [encSeen] at hmod
      have q0 := t5.q0
      have q1 := t5.q1
      have q2 := t5.q2
      have q3 := t5.q3
      clear hb hsn
      go_wp2_with fail
      refine hmod.mono ?_
      rintro e w6 ⟨rfl, hb⟩
      have t6 := t5.next hb
      have g0 : w6.cell? ⟨w5.heap.size, 0, none⟩ = some (.slice none 0 0) := keepNew hb 0
      have g1' : w6.cell? ⟨w5.heap.size, 1, none⟩ = some (.bool false) := keepNew hb 1
      have g2 : w6.cell? ⟨w5.heap.size, 2, none⟩ = some (.pointer none) := keepNew hb 2
      have g3 : w6.cell? ⟨w5.heap.size, 3, none⟩ = some (.int .u64 0) := keepNew hb 3
      clear hb hmod q0 q1 q2 q3 t5
      go_wp2_with (go_at_call 12; refine (isZero _).mono ?_; rintro e w7 ⟨rfl, hb7⟩)
      go_ret
      exact ⟨rfl, (t6.next hb7).bel⟩
    | some j =>
      have hjl := lastVis_lt hix
      have hsn := seen eb h on V p wa sn S ga va G rd snap _ EN OW SM.ol
      rw [hp, hix] at hsn
      simp only [seenVal] at hsn
      have hagain := fun g => seen_again SH hix g
      have hxa0 : ∀ W, EntryIn W eb h on V p sn ga va G → RowIn W (vrow ga on G j) (ver h on V j).rn (ver h on V j).row := fun W e => (e.at hjl).1
      have hxn0 := (EN.at hjl).2
      have hxr0 : ∀ W, Below w.heap.size w W → RowIn W (ver h on V j).ra (ver h on V j).rn (ver h on V j).row := fun W b => (inp.below b).at hjl
      have hxb0 := SM.at hjl
      obtain ⟨x, hx⟩ : ∃ x, x = ver h on V j := ⟨_, rfl⟩
      obtain ⟨xa, hxad⟩ : ∃ xa, xa = vrow ga on G j := ⟨_, rfl⟩
      have HX : Hid (x = ver h on V j) := hx
      have HXA : Hid (xa = vrow ga on G j) := hxad
      rw [← hx, ← hxad] at hsn hxa0 hxn0
      rw [← hx] at hxr0 hxb0 hagain
      have hxa := hide hxa0
      have hxr := hide hxr0
      have hag := hide hagain
      have hxn := hide hxn0
      have hxb := hxb0
      clear hxa0 hxr0 hagain hxn0 hxb0 hx hxad
      refine hsn.mono ?_
      rintro e w5 ⟨rfl, hb⟩
      have b5 := below1 w5 (Obj.cells #[Value.slice xa x.rn x.rn, Value.bool x.ghost, Value.pointer (wptr p sn x.writer), Value.int IntKind.u64 x.com] 40)
      have t5 := (t4.next hb).next b5
      have EN5 := (EN.below hb).below b5
      have OW5 := (OW.below hb).below b5
      clear hsn b5 hb EN OW t4
      by_cases hjo : j = on
      · have HHX : Hid (x = h) := by rw [HX.out, hjo, ver_top]; exact rfl
        have hmod := seenModel h oa on oc V sa sn sc S rd snap _ (inp.below t5.bel).ho (inp.below t5.bel).hs inp.bo SH
        rw [model_eq SH, hix, encSeen, if_pos hjo] at hmod
        have q0 := t5.q0
        have q1 := t5.q1
        have q2 := t5.q2
        have q3 := t5.q3
        go_wp2_with fail
        refine hmod.mono ?_
        rintro e w6 ⟨rfl, hb⟩
        clear hmod q0 q1 q2 q3
        have t6 := t5.next hb
        have EN6 := EN5.below hb
        have OW6 := OW5.below hb
        have g0 : w6.cell? ⟨w5.heap.size, 0, none⟩ = some (.slice xa x.rn x.rn) := keepNew hb 0
        have g1' : w6.cell? ⟨w5.heap.size, 1, none⟩ = some (.bool x.ghost) := keepNew hb 1
        have g2 : w6.cell? ⟨w5.heap.size, 2, none⟩ = some (.pointer (wptr p sn x.writer)) := keepNew hb 2
        have g3 : w6.cell? ⟨w5.heap.size, 3, none⟩ = some (.int .u64 x.com) := keepNew hb 3
        have gl := keepNewLt hb
        clear hb t5 EN5 OW5
        have q0 := t6.q0
        have q1 := t6.q1
        have q2 := t6.q2
        have q3 := t6.q3
        have hlw := t6.lt
        rw [← HHX.out] at q0 q1 q2 q3
        have b7 := below1 w6 (Obj.cells #[Value.slice x.ra x.rn x.rc, Value.bool x.ghost, Value.int IntKind.i64 x.writer, Value.int IntKind.u64 x.com] 25)
        have t7 := t6.next b7
        have EN7 := EN6.below b7
        have OW7 := OW6.below b7
        have hsame := same x xa wa sn p S _ (hxa.out _ EN7) (hxr.out _ t7.bel) hxn.out OW7 hxb
        clear b7 EN6 OW6
        go_wp2_with fail
        refine hsame.mono ?_
        rintro e w8 ⟨rfl, hb⟩
        clear hsame
        have t8 := t7.next hb
        have EN8 := EN7.below hb
        have OW8 := OW7.below hb
        have v0 : w8.cell? ⟨w6.heap.size, 0, none⟩ = some (.slice x.ra x.rn x.rc) := keepNew hb 0
        have v1 : w8.cell? ⟨w6.heap.size, 1, none⟩ = some (.bool x.ghost) := keepNew hb 1
        have v2 : w8.cell? ⟨w6.heap.size, 2, none⟩ = some (.int .i64 x.writer) := keepNew hb 2
        have v3 : w8.cell? ⟨w6.heap.size, 3, none⟩ = some (.int .u64 x.com) := keepNew hb 3
        have vl := keepNewLt hb
        clear hb t7 EN7 OW7 g0 g1' g2 g3 gl q0 q1 q2 q3 hlw t6
        cases g4 : own x.writer sn
        · have hsn := seen eb h on V p wa sn S ga va G rd x.com _ EN8 OW8 SM.ol
          rw [hp, hag.out g4] at hsn
          simp only [seenVal] at hsn
          rw [← HX.out, ← HXA.out] at hsn
          go_wp2_with (go_at_call 9; refine (isOwner _ _ _).mono ?_; rintro e w' ⟨rfl, hw⟩; subst hw)
          refine hsn.mono ?_
          rintro e w9 ⟨rfl, hb⟩
          have t9 := t8.next hb
          have EN9 := EN8.below hb
          have OW9 := OW8.below hb
          have u0 := cell_below hb v0 vl
          have u1 := cell_below hb v1 vl
          have u2 := cell_below hb v2 vl
          have u3 := cell_below hb v3 vl
          have ul : w6.heap.size < w9.heap.size := Nat.lt_of_lt_of_le vl hb.size
          clear hb v0 v1 v2 v3 vl hsn t8 EN8 OW8
          have b10 := below1 w9 (Obj.cells #[Value.slice xa x.rn x.rn, Value.bool x.ghost, Value.pointer (wptr p sn x.writer), Value.int IntKind.u64 x.com] 40)
          have t10 := t9.next b10
          have EN10 := EN9.below b10
          have OW10 := OW9.below b10
          have hsame := same x xa wa sn p S _ (hxa.out _ EN10) (hxr.out _ t10.bel) hxn.out OW10 hxb
          clear b10 EN9 OW9 t9
          go_wp2_with fail
          refine hsame.mono ?_
          rintro e w11 ⟨rfl, hb⟩
          have t11 := t10.next hb
          clear hb hsame
          go_wp2
          go_ret
          exact ⟨by simp, t11.bel⟩
        · go_wp2_with (go_at_call 9; refine (isOwner _ _ _).mono ?_; rintro e w' ⟨rfl, hw⟩; subst hw)
          go_ret
          exact ⟨rfl, t8.bel⟩
      · have hjo : j < on := by omega
        have HHX : Hid (x = V j) := by rw [HX.out, ver_old hjo]; exact rfl
        have hmod := seenModel h oa on oc V sa sn sc S rd snap _ (inp.below t5.bel).ho (inp.below t5.bel).hs inp.bo SH
        rw [model_eq SH, hix, encSeen, if_neg (by omega)] at hmod
        have q0 := t5.q0
        have q1 := t5.q1
        have q2 := t5.q2
        have q3 := t5.q3
        go_wp2_with fail
        refine hmod.mono ?_
        rintro e w6 ⟨rfl, hb⟩
        clear hmod q0 q1 q2 q3
        have t6 := t5.next hb
        have EN6 := EN5.below hb
        have OW6 := OW5.below hb
        have g0 : w6.cell? ⟨w5.heap.size, 0, none⟩ = some (.slice xa x.rn x.rn) := keepNew hb 0
        have g1' : w6.cell? ⟨w5.heap.size, 1, none⟩ = some (.bool x.ghost) := keepNew hb 1
        have g2 : w6.cell? ⟨w5.heap.size, 2, none⟩ = some (.pointer (wptr p sn x.writer)) := keepNew hb 2
        have g3 : w6.cell? ⟨w5.heap.size, 3, none⟩ = some (.int .u64 x.com) := keepNew hb 3
        have gl := keepNewLt hb
        clear hb t5 EN5 OW5
        have hidx := fun w => run_index_at (P := Try.prog) (c := oc) Try.underlying26 size25 inp.ho.pl hjo w
        have i6 := (inp.below t6.bel).ho
        have s0 := i6.c0 j hjo
        have s1 := i6.c1 j hjo
        have s2 := i6.c2 j hjo
        have s3 := i6.c3 j hjo
        have hlv := i6.lt j hjo
        clear i6
        rw [← HHX.out] at s0 s1 s2 s3
        have b7 := below1 w6 (Obj.cells #[Value.slice x.ra x.rn x.rc, Value.bool x.ghost, Value.int IntKind.i64 x.writer, Value.int IntKind.u64 x.com] 25)
        have t7 := t6.next b7
        have EN7 := EN6.below b7
        have OW7 := OW6.below b7
        have hsame := same x xa wa sn p S _ (hxa.out _ EN7) (hxr.out _ t7.bel) hxn.out OW7 hxb
        clear b7 EN6 OW6
        go_wp2_with fail
        refine hsame.mono ?_
        rintro e w8 ⟨rfl, hb⟩
        clear hsame
        have t8 := t7.next hb
        have EN8 := EN7.below hb
        have OW8 := OW7.below hb
        have v0 : w8.cell? ⟨w6.heap.size, 0, none⟩ = some (.slice x.ra x.rn x.rc) := keepNew hb 0
        have v1 : w8.cell? ⟨w6.heap.size, 1, none⟩ = some (.bool x.ghost) := keepNew hb 1
        have v2 : w8.cell? ⟨w6.heap.size, 2, none⟩ = some (.int .i64 x.writer) := keepNew hb 2
        have v3 : w8.cell? ⟨w6.heap.size, 3, none⟩ = some (.int .u64 x.com) := keepNew hb 3
        have vl := keepNewLt hb
        clear hb t7 EN7 OW7 g0 g1' g2 g3 gl hidx s0 s1 s2 s3 hlv t6
        cases g4 : own x.writer sn
        · have hsn := seen eb h on V p wa sn S ga va G rd x.com _ EN8 OW8 SM.ol
          rw [hp, hag.out g4] at hsn
          simp only [seenVal] at hsn
          rw [← HX.out, ← HXA.out] at hsn
          go_wp2_with (go_at_call 9; refine (isOwner _ _ _).mono ?_; rintro e w' ⟨rfl, hw⟩; subst hw)
          refine hsn.mono ?_
          rintro e w9 ⟨rfl, hb⟩
          have t9 := t8.next hb
          have EN9 := EN8.below hb
          have OW9 := OW8.below hb
          have u0 := cell_below hb v0 vl
          have u1 := cell_below hb v1 vl
          have u2 := cell_below hb v2 vl
          have u3 := cell_below hb v3 vl
          have ul : w6.heap.size < w9.heap.size := Nat.lt_of_lt_of_le vl hb.size
          clear hb v0 v1 v2 v3 vl hsn t8 EN8 OW8
          have b10 := below1 w9 (Obj.cells #[Value.slice xa x.rn x.rn, Value.bool x.ghost, Value.pointer (wptr p sn x.writer), Value.int IntKind.u64 x.com] 40)
          have t10 := t9.next b10
          have EN10 := EN9.below b10
          have OW10 := OW9.below b10
          have hsame := same x xa wa sn p S _ (hxa.out _ EN10) (hxr.out _ t10.bel) hxn.out OW10 hxb
          clear b10 EN9 OW9 t9
          go_wp2_with fail
          refine hsame.mono ?_
          rintro e w11 ⟨rfl, hb⟩
          have t11 := t10.next hb
          clear hb hsame
          go_wp2
          go_ret
          exact ⟨by simp, t11.bel⟩
        · go_wp2_with (go_at_call 9; refine (isOwner _ _ _).mono ?_; rintro e w' ⟨rfl, hw⟩; subst hw)
          go_ret
          exact ⟨rfl, t8.bel⟩
  · have hp : wptr p sn rd = some ⟨p rd.toNat, 0, none⟩ := by simp [wptr, g1]
    have hbd : 0 ≤ rd ∧ rd < sn := by simpa [own] using g1
    obtain ⟨hb0, hb1⟩ := hbd
    have hidxo := fun w => run_index_int (P := Try.prog) (c := sn) Try.underlying32 size35 OW.pl hb0 hb1 w
    have hco := OW.c0 rd.toNat (by omega)
    have hlo := OW.lt rd.toNat (by omega)
    go_wp2_with (go_at_call 9; refine (isOwner _ _ _).mono ?_; rintro e w' ⟨rfl, hw⟩; subst hw)
    cases hix : seenIdx S sn h on V rd snap (on + 1) with
    | none =>
      have hsn := seen eb h on V p wa sn S ga va G rd snap _ EN OW SM.ol
      rw [hp, hix] at hsn
      simp only [seenVal] at hsn
      refine hsn.mono ?_
      rintro e w5 ⟨rfl, hb⟩
      have t5 := (t4.next hb).next (below1 w5 (Obj.cells #[Value.slice none 0 0, Value.bool false, Value.pointer none, Value.int IntKind.u64 0] 40))
      have hmod := seenModel h oa on oc V sa sn sc S rd snap _ (inp.below t5.bel).ho (inp.below t5.bel).hs inp.bo SH
      rw [model_eq SH, hix] at hmod
      simp only [encSeen] at hmod
      have q0 := t5.q0
      have q1 := t5.q1
      have q2 := t5.q2
      have q3 := t5.q3
      clear hb hsn
      go_wp2_with fail
      refine hmod.mono ?_
      rintro e w6 ⟨rfl, hb⟩
      have t6 := t5.next hb
      have g0 : w6.cell? ⟨w5.heap.size, 0, none⟩ = some (.slice none 0 0) := keepNew hb 0
      have g1' : w6.cell? ⟨w5.heap.size, 1, none⟩ = some (.bool false) := keepNew hb 1
      have g2 : w6.cell? ⟨w5.heap.size, 2, none⟩ = some (.pointer none) := keepNew hb 2
      have g3 : w6.cell? ⟨w5.heap.size, 3, none⟩ = some (.int .u64 0) := keepNew hb 3
      clear hb hmod q0 q1 q2 q3 t5
      go_wp2_with (go_at_call 12; refine (isZero _).mono ?_; rintro e w7 ⟨rfl, hb7⟩)
      go_ret
      exact ⟨rfl, (t6.next hb7).bel⟩
    | some j =>
      have hjl := lastVis_lt hix
      have hsn := seen eb h on V p wa sn S ga va G rd snap _ EN OW SM.ol
      rw [hp, hix] at hsn
      simp only [seenVal] at hsn
      have hagain := fun g => seen_again SH hix g
      have hxa0 : ∀ W, EntryIn W eb h on V p sn ga va G → RowIn W (vrow ga on G j) (ver h on V j).rn (ver h on V j).row := fun W e => (e.at hjl).1
      have hxn0 := (EN.at hjl).2
      have hxr0 : ∀ W, Below w.heap.size w W → RowIn W (ver h on V j).ra (ver h on V j).rn (ver h on V j).row := fun W b => (inp.below b).at hjl
      have hxb0 := SM.at hjl
      obtain ⟨x, hx⟩ : ∃ x, x = ver h on V j := ⟨_, rfl⟩
      obtain ⟨xa, hxad⟩ : ∃ xa, xa = vrow ga on G j := ⟨_, rfl⟩
      have HX : Hid (x = ver h on V j) := hx
      have HXA : Hid (xa = vrow ga on G j) := hxad
      rw [← hx, ← hxad] at hsn hxa0 hxn0
      rw [← hx] at hxr0 hxb0 hagain
      have hxa := hide hxa0
      have hxr := hide hxr0
      have hag := hide hagain
      have hxn := hide hxn0
      have hxb := hxb0
      clear hxa0 hxr0 hagain hxn0 hxb0 hx hxad
      refine hsn.mono ?_
      rintro e w5 ⟨rfl, hb⟩
      have b5 := below1 w5 (Obj.cells #[Value.slice xa x.rn x.rn, Value.bool x.ghost, Value.pointer (wptr p sn x.writer), Value.int IntKind.u64 x.com] 40)
      have t5 := (t4.next hb).next b5
      have EN5 := (EN.below hb).below b5
      have OW5 := (OW.below hb).below b5
      clear hsn b5 hb EN OW t4
      by_cases hjo : j = on
      · have HHX : Hid (x = h) := by rw [HX.out, hjo, ver_top]; exact rfl
        have hmod := seenModel h oa on oc V sa sn sc S rd snap _ (inp.below t5.bel).ho (inp.below t5.bel).hs inp.bo SH
        rw [model_eq SH, hix, encSeen, if_pos hjo] at hmod
        have q0 := t5.q0
        have q1 := t5.q1
        have q2 := t5.q2
        have q3 := t5.q3
        go_wp2_with fail
        refine hmod.mono ?_
        rintro e w6 ⟨rfl, hb⟩
        clear hmod q0 q1 q2 q3
        have t6 := t5.next hb
        have EN6 := EN5.below hb
        have OW6 := OW5.below hb
        have g0 : w6.cell? ⟨w5.heap.size, 0, none⟩ = some (.slice xa x.rn x.rn) := keepNew hb 0
        have g1' : w6.cell? ⟨w5.heap.size, 1, none⟩ = some (.bool x.ghost) := keepNew hb 1
        have g2 : w6.cell? ⟨w5.heap.size, 2, none⟩ = some (.pointer (wptr p sn x.writer)) := keepNew hb 2
        have g3 : w6.cell? ⟨w5.heap.size, 3, none⟩ = some (.int .u64 x.com) := keepNew hb 3
        have gl := keepNewLt hb
        clear hb t5 EN5 OW5
        have q0 := t6.q0
        have q1 := t6.q1
        have q2 := t6.q2
        have q3 := t6.q3
        have hlw := t6.lt
        rw [← HHX.out] at q0 q1 q2 q3
        have b7 := below1 w6 (Obj.cells #[Value.slice x.ra x.rn x.rc, Value.bool x.ghost, Value.int IntKind.i64 x.writer, Value.int IntKind.u64 x.com] 25)
        have t7 := t6.next b7
        have EN7 := EN6.below b7
        have OW7 := OW6.below b7
        have hsame := same x xa wa sn p S _ (hxa.out _ EN7) (hxr.out _ t7.bel) hxn.out OW7 hxb
        clear b7 EN6 OW6
        go_wp2_with fail
        refine hsame.mono ?_
        rintro e w8 ⟨rfl, hb⟩
        clear hsame
        have t8 := t7.next hb
        have EN8 := EN7.below hb
        have OW8 := OW7.below hb
        have v0 : w8.cell? ⟨w6.heap.size, 0, none⟩ = some (.slice x.ra x.rn x.rc) := keepNew hb 0
        have v1 : w8.cell? ⟨w6.heap.size, 1, none⟩ = some (.bool x.ghost) := keepNew hb 1
        have v2 : w8.cell? ⟨w6.heap.size, 2, none⟩ = some (.int .i64 x.writer) := keepNew hb 2
        have v3 : w8.cell? ⟨w6.heap.size, 3, none⟩ = some (.int .u64 x.com) := keepNew hb 3
        have vl := keepNewLt hb
        clear hb t7 EN7 OW7 g0 g1' g2 g3 gl q0 q1 q2 q3 hlw t6
        cases g4 : own x.writer sn
        · have hsn := seen eb h on V p wa sn S ga va G rd x.com _ EN8 OW8 SM.ol
          rw [hp, hag.out g4] at hsn
          simp only [seenVal] at hsn
          rw [← HX.out, ← HXA.out] at hsn
          go_wp2_with (go_at_call 9; refine (isOwner _ _ _).mono ?_; rintro e w' ⟨rfl, hw⟩; subst hw)
          refine hsn.mono ?_
          rintro e w9 ⟨rfl, hb⟩
          have t9 := t8.next hb
          have EN9 := EN8.below hb
          have OW9 := OW8.below hb
          have u0 := cell_below hb v0 vl
          have u1 := cell_below hb v1 vl
          have u2 := cell_below hb v2 vl
          have u3 := cell_below hb v3 vl
          have ul : w6.heap.size < w9.heap.size := Nat.lt_of_lt_of_le vl hb.size
          clear hb v0 v1 v2 v3 vl hsn t8 EN8 OW8
          have b10 := below1 w9 (Obj.cells #[Value.slice xa x.rn x.rn, Value.bool x.ghost, Value.pointer (wptr p sn x.writer), Value.int IntKind.u64 x.com] 40)
          have t10 := t9.next b10
          have EN10 := EN9.below b10
          have OW10 := OW9.below b10
          have hsame := same x xa wa sn p S _ (hxa.out _ EN10) (hxr.out _ t10.bel) hxn.out OW10 hxb
          clear b10 EN9 OW9 t9
          go_wp2_with fail
          refine hsame.mono ?_
          rintro e w11 ⟨rfl, hb⟩
          have t11 := t10.next hb
          clear hb hsame
          go_wp2
          go_ret
          exact ⟨by simp, t11.bel⟩
        · go_wp2_with (go_at_call 9; refine (isOwner _ _ _).mono ?_; rintro e w' ⟨rfl, hw⟩; subst hw)
          go_ret
          exact ⟨rfl, t8.bel⟩
      · have hjo : j < on := by omega
        have HHX : Hid (x = V j) := by rw [HX.out, ver_old hjo]; exact rfl
        have hmod := seenModel h oa on oc V sa sn sc S rd snap _ (inp.below t5.bel).ho (inp.below t5.bel).hs inp.bo SH
        rw [model_eq SH, hix, encSeen, if_neg (by omega)] at hmod
        have q0 := t5.q0
        have q1 := t5.q1
        have q2 := t5.q2
        have q3 := t5.q3
        go_wp2_with fail
        refine hmod.mono ?_
        rintro e w6 ⟨rfl, hb⟩
        clear hmod q0 q1 q2 q3
        have t6 := t5.next hb
        have EN6 := EN5.below hb
        have OW6 := OW5.below hb
        have g0 : w6.cell? ⟨w5.heap.size, 0, none⟩ = some (.slice xa x.rn x.rn) := keepNew hb 0
        have g1' : w6.cell? ⟨w5.heap.size, 1, none⟩ = some (.bool x.ghost) := keepNew hb 1
        have g2 : w6.cell? ⟨w5.heap.size, 2, none⟩ = some (.pointer (wptr p sn x.writer)) := keepNew hb 2
        have g3 : w6.cell? ⟨w5.heap.size, 3, none⟩ = some (.int .u64 x.com) := keepNew hb 3
        have gl := keepNewLt hb
        clear hb t5 EN5 OW5
        have hidx := fun w => run_index_at (P := Try.prog) (c := oc) Try.underlying26 size25 inp.ho.pl hjo w
        have i6 := (inp.below t6.bel).ho
        have s0 := i6.c0 j hjo
        have s1 := i6.c1 j hjo
        have s2 := i6.c2 j hjo
        have s3 := i6.c3 j hjo
        have hlv := i6.lt j hjo
        clear i6
        rw [← HHX.out] at s0 s1 s2 s3
        have b7 := below1 w6 (Obj.cells #[Value.slice x.ra x.rn x.rc, Value.bool x.ghost, Value.int IntKind.i64 x.writer, Value.int IntKind.u64 x.com] 25)
        have t7 := t6.next b7
        have EN7 := EN6.below b7
        have OW7 := OW6.below b7
        have hsame := same x xa wa sn p S _ (hxa.out _ EN7) (hxr.out _ t7.bel) hxn.out OW7 hxb
        clear b7 EN6 OW6
        go_wp2_with fail
        refine hsame.mono ?_
        rintro e w8 ⟨rfl, hb⟩
        clear hsame
        have t8 := t7.next hb
        have EN8 := EN7.below hb
        have OW8 := OW7.below hb
        have v0 : w8.cell? ⟨w6.heap.size, 0, none⟩ = some (.slice x.ra x.rn x.rc) := keepNew hb 0
        have v1 : w8.cell? ⟨w6.heap.size, 1, none⟩ = some (.bool x.ghost) := keepNew hb 1
        have v2 : w8.cell? ⟨w6.heap.size, 2, none⟩ = some (.int .i64 x.writer) := keepNew hb 2
        have v3 : w8.cell? ⟨w6.heap.size, 3, none⟩ = some (.int .u64 x.com) := keepNew hb 3
        have vl := keepNewLt hb
        clear hb t7 EN7 OW7 g0 g1' g2 g3 gl hidx s0 s1 s2 s3 hlv t6
        cases g4 : own x.writer sn
        · have hsn := seen eb h on V p wa sn S ga va G rd x.com _ EN8 OW8 SM.ol
          rw [hp, hag.out g4] at hsn
          simp only [seenVal] at hsn
          rw [← HX.out, ← HXA.out] at hsn
          go_wp2_with (go_at_call 9; refine (isOwner _ _ _).mono ?_; rintro e w' ⟨rfl, hw⟩; subst hw)
          refine hsn.mono ?_
          rintro e w9 ⟨rfl, hb⟩
          have t9 := t8.next hb
          have EN9 := EN8.below hb
          have OW9 := OW8.below hb
          have u0 := cell_below hb v0 vl
          have u1 := cell_below hb v1 vl
          have u2 := cell_below hb v2 vl
          have u3 := cell_below hb v3 vl
          have ul : w6.heap.size < w9.heap.size := Nat.lt_of_lt_of_le vl hb.size
          clear hb v0 v1 v2 v3 vl hsn t8 EN8 OW8
          have b10 := below1 w9 (Obj.cells #[Value.slice xa x.rn x.rn, Value.bool x.ghost, Value.pointer (wptr p sn x.writer), Value.int IntKind.u64 x.com] 40)
          have t10 := t9.next b10
          have EN10 := EN9.below b10
          have OW10 := OW9.below b10
          have hsame := same x xa wa sn p S _ (hxa.out _ EN10) (hxr.out _ t10.bel) hxn.out OW10 hxb
          clear b10 EN9 OW9 t9
          go_wp2_with fail
          refine hsame.mono ?_
          rintro e w11 ⟨rfl, hb⟩
          have t11 := t10.next hb
          clear hb hsame
          go_wp2
          go_ret
          exact ⟨by simp, t11.bel⟩
        · go_wp2_with (go_at_call 9; refine (isOwner _ _ _).mono ?_; rintro e w' ⟨rfl, hw⟩; subst hw)
          go_ret
          exact ⟨rfl, t8.bel⟩
end Go.Proofs.Qxb6628366a
