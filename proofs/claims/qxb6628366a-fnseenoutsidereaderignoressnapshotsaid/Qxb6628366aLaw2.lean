import Derived.Test.Qxb6628366aLaw1
import Derived.Test.Qxb6628366aW14
import Derived.Test.Qxb6628366aW15
namespace Go.Proofs.Qxb6628366a
open Go.RowKit

theorem own_out (n : Nat) : own (-1) n = false := by simp [own]
theorem wptr_out (p : Nat → Nat) (n : Nat) : wptr p n (-1) = none := by simp [wptr, own_out]

set_option maxRecDepth 100000 in
set_option maxHeartbeats 4000000 in
theorem law2 (h : LVer) (oa : Option Addr) (on oc : Nat) (V : Nat → LVer) (sa : Option Addr) (sn sc : Nat) (S : Nat → Bool) (s1 s2 : Int) (w : World) (inp : Inp w h oa on V sa sn S) :
    Calls Try.prog 4 #[.agg #[.slice h.ra h.rn h.rc, .bool h.ghost, .int .i64 h.writer, .int .u64 h.com], .slice oa on oc, .slice sa sn sc, .int .u64 s1, .int .u64 s2] w (Ret1 w (.bool true)) := by
  have t0 := Top.start w h
  go_enter Try.func4, Try.ntmps4
  go_wp2_with fail
  refine (zzBytes14 h oa on oc V sa sn sc s1 s2 _ (inp.below t0.bel).hh (inp.below t0.bel).ho inp.bh inp.bo inp.bs inp.bv).mono ?_
  rintro e w1 ⟨b, rfl, hb, hsm⟩
  have t1 := t0.next hb
  clear hb t0
  cases b
  · go_wp2
    go_ret
    exact ⟨rfl, t1.bel⟩
  have SM := hsm rfl
  clear hsm
  have q0 := t1.q0
  have q1 := t1.q1
  have q2 := t1.q2
  have q3 := t1.q3
  go_wp2_with fail
  refine (sizeOK h oa on oc V sa sn sc _ (inp.below t1.bel).hh (inp.below t1.bel).ho SM).mono ?_
  rintro e w2 ⟨b, rfl, hb, -⟩
  have t2 := t1.next hb
  clear hb t1 q0 q1 q2 q3
  cases b
  · go_wp2
    go_ret
    exact ⟨rfl, t2.bel⟩
  have q0 := t2.q0
  have q1 := t2.q1
  have q2 := t2.q2
  have q3 := t2.q3
  cases f1 : s1 == 18446744073709551615
  case true =>
    go_wp2
    go_ret
    exact ⟨rfl, t2.bel⟩
  cases f2 : s2 == 18446744073709551615
  case true =>
    go_wp2
    go_ret
    exact ⟨rfl, t2.bel⟩
  go_wp2_with fail
  refine (validShape h oa on oc V sn _ (inp.below t2.bel).ho inp.bo).mono ?_
  rintro e w3 ⟨b, rfl, hb, hsh⟩
  have t3 := t2.next hb
  clear hb t2 q0 q1 q2 q3
  cases b
  · go_wp2
    go_ret
    exact ⟨rfl, t3.bel⟩
  have SH := hsh rfl
  clear hsh
  have ix1 := seen_outside (S := S) SH (own_out sn) f1
  have ix2 := seen_outside (S := S) SH (own_out sn) f2
  clear f1 f2
  have q0 := t3.q0
  have q1 := t3.q1
  have q2 := t3.q2
  have q3 := t3.q3
  go_wp2_with fail
  refine (build h oa on oc V sa sn sc S _ (inp.below t3.bel).hh inp.hz (inp.below t3.bel).ho inp.hzo inp.hzv (inp.below t3.bel).hs SM).mono ?_
  rintro e w4 ⟨eb, wa, p, ga, va, G, rfl, hb, OW, EN⟩
  have t4 := t3.next hb
  clear hb t3 q0 q1 q2 q3
  have hsn1 := seen eb h on V p wa sn S ga va G (-1) s1 _ EN OW SM.ol
  rw [wptr_out, ix1] at hsn1
  have IX1 := hide ix1
  have IX2 := hide ix2
  clear ix1 ix2
  go_wp2_with fail
  cases hix : nIdx h on sn with
  | none =>
    rw [hix] at hsn1
    simp only [seenVal] at hsn1
    refine hsn1.mono ?_
    rintro e w5 ⟨rfl, hb⟩
    have b5 := below1 w5 (Obj.cells #[Value.slice none 0 0, Value.bool false, Value.pointer none, Value.int IntKind.u64 0] 40)
    have t5 := (t4.next hb).next b5
    have EN5 := (EN.below hb).below b5
    have OW5 := (OW.below hb).below b5
    clear hsn1 b5 hb EN OW t4
    have hsn2 := seen eb h on V p wa sn S ga va G (-1) s2 _ EN5 OW5 SM.ol
    rw [wptr_out, IX2.out, hix] at hsn2
    simp only [seenVal] at hsn2
    go_wp2_with fail
    refine hsn2.mono ?_
    rintro e w6 ⟨rfl, hb⟩
    have g0 : w6.cell? ⟨w5.heap.size, 0, none⟩ = some (.slice none 0 0) := keepNew hb 0
    have g1 : w6.cell? ⟨w5.heap.size, 1, none⟩ = some (.bool false) := keepNew hb 1
    have g2 : w6.cell? ⟨w5.heap.size, 2, none⟩ = some (.pointer none) := keepNew hb 2
    have g3 : w6.cell? ⟨w5.heap.size, 3, none⟩ = some (.int .u64 0) := keepNew hb 3
    have gl := keepNewLt hb
    have b6 := below1 w6 (Obj.cells #[Value.slice none 0 0, Value.bool false, Value.pointer none, Value.int IntKind.u64 0] 40)
    have t6 := (t5.next hb).next b6
    have g0 := cell_below b6 g0 gl
    have g1 := cell_below b6 g1 gl
    have g2 := cell_below b6 g2 gl
    have g3 := cell_below b6 g3 gl
    have gl1 : w5.heap.size < (w6.alloc (Obj.cells #[Value.slice none 0 0, Value.bool false, Value.pointer none, Value.int IntKind.u64 0] 40)).heap.size := Nat.lt_of_lt_of_le gl b6.size
    clear hsn2 b6 hb EN5 OW5 t5
    have hnew := newest h oa on oc V sn _ (inp.below t6.bel).ho inp.bo SH
    rw [hix] at hnew
    simp only [encSeen] at hnew
    have q0 := t6.q0
    have q1 := t6.q1
    have q2 := t6.q2
    have q3 := t6.q3
    go_wp2_with fail
    refine hnew.mono ?_
    rintro e w7 ⟨rfl, hb⟩
    have t7 := t6.next hb
    have k0 : w7.cell? ⟨w6.heap.size, 0, none⟩ = some (.slice none 0 0) := keepNew hb 0
    have k1 : w7.cell? ⟨w6.heap.size, 1, none⟩ = some (.bool false) := keepNew hb 1
    have k2 : w7.cell? ⟨w6.heap.size, 2, none⟩ = some (.pointer none) := keepNew hb 2
    have k3 : w7.cell? ⟨w6.heap.size, 3, none⟩ = some (.int .u64 0) := keepNew hb 3
    have kl := keepNewLt hb
    have m0 := cell_below hb g0 gl1
    have m1 := cell_below hb g1 gl1
    have m2 := cell_below hb g2 gl1
    have m3 := cell_below hb g3 gl1
    clear hb hnew g0 g1 g2 g3 q0 q1 q2 q3 t6 gl1 gl
    go_wp2_with fail
    refine (isZero _).mono ?_
    rintro e w8 ⟨rfl, hb⟩
    have t8 := t7.next hb
    have k0 := cell_below hb k0 kl
    have k1 := cell_below hb k1 kl
    have k2 := cell_below hb k2 kl
    have k3 := cell_below hb k3 kl
    clear hb m0 m1 m2 m3 t7
    go_wp2_with fail
    refine (isZero _).mono ?_
    rintro e w9 ⟨rfl, hb⟩
    have t9 := t8.next hb
    clear hb
    go_wp2
    go_ret
    exact ⟨rfl, t9.bel⟩
  | some j =>
    have hjl := nIdx_lt hix
    rw [hix] at hsn1
    simp only [seenVal] at hsn1
    have hxa0 : ∀ W, EntryIn W eb h on V p sn ga va G → RowIn W (vrow ga on G j) (ver h on V j).rn (ver h on V j).row := fun W e => (e.at hjl).1
    have hxn0 := (EN.at hjl).2
    have hxr0 : ∀ W, Below w.heap.size w W → RowIn W (ver h on V j).ra (ver h on V j).rn (ver h on V j).row := fun W b => (inp.below b).at hjl
    have hxb0 := SM.at hjl
    obtain ⟨x, hx⟩ : ∃ x, x = ver h on V j := ⟨_, rfl⟩
    obtain ⟨xa, hxad⟩ : ∃ xa, xa = vrow ga on G j := ⟨_, rfl⟩
    have HX : Hid (x = ver h on V j) := hx
    have HXA : Hid (xa = vrow ga on G j) := hxad
    rw [← hx, ← hxad] at hsn1 hxa0 hxn0
    rw [← hx] at hxr0 hxb0
    have hxa := hide hxa0
    have hxr := hide hxr0
    have hxn := hide hxn0
    have hxb := hxb0
    clear hxa0 hxr0 hxn0 hxb0 hx hxad
    refine hsn1.mono ?_
    rintro e w5 ⟨rfl, hb⟩
    have b5 := below1 w5 (Obj.cells #[Value.slice xa x.rn x.rn, Value.bool x.ghost, Value.pointer (wptr p sn x.writer), Value.int IntKind.u64 x.com] 40)
    have t5 := (t4.next hb).next b5
    have EN5 := (EN.below hb).below b5
    have OW5 := (OW.below hb).below b5
    clear hsn1 b5 hb EN OW t4
    have hsn2 := seen eb h on V p wa sn S ga va G (-1) s2 _ EN5 OW5 SM.ol
    rw [wptr_out, IX2.out, hix] at hsn2
    simp only [seenVal] at hsn2
    rw [← HX.out, ← HXA.out] at hsn2
    go_wp2_with fail
    refine hsn2.mono ?_
    rintro e w6 ⟨rfl, hb⟩
    have g0 : w6.cell? ⟨w5.heap.size, 0, none⟩ = some (.slice xa x.rn x.rn) := keepNew hb 0
    have g1 : w6.cell? ⟨w5.heap.size, 1, none⟩ = some (.bool x.ghost) := keepNew hb 1
    have g2 : w6.cell? ⟨w5.heap.size, 2, none⟩ = some (.pointer (wptr p sn x.writer)) := keepNew hb 2
    have g3 : w6.cell? ⟨w5.heap.size, 3, none⟩ = some (.int .u64 x.com) := keepNew hb 3
    have gl := keepNewLt hb
    have b6 := below1 w6 (Obj.cells #[Value.slice xa x.rn x.rn, Value.bool x.ghost, Value.pointer (wptr p sn x.writer), Value.int IntKind.u64 x.com] 40)
    have t6 := (t5.next hb).next b6
    have EN6 := (EN5.below hb).below b6
    have OW6 := (OW5.below hb).below b6
    have g0 := cell_below b6 g0 gl
    have g1 := cell_below b6 g1 gl
    have g2 := cell_below b6 g2 gl
    have g3 := cell_below b6 g3 gl
    have gl1 : w5.heap.size < (w6.alloc (Obj.cells #[Value.slice xa x.rn x.rn, Value.bool x.ghost, Value.pointer (wptr p sn x.writer), Value.int IntKind.u64 x.com] 40)).heap.size := Nat.lt_of_lt_of_le gl b6.size
    clear hsn2 b6 hb EN5 OW5 t5 gl
    by_cases hjo : j = on
    · have HHX : Hid (x = h) := by rw [HX.out, hjo, ver_top]; exact rfl
      have hnew := newest h oa on oc V sn _ (inp.below t6.bel).ho inp.bo SH
      rw [hix, encSeen, if_pos hjo] at hnew
      have q0 := t6.q0
      have q1 := t6.q1
      have q2 := t6.q2
      have q3 := t6.q3
      go_wp2_with fail
      refine hnew.mono ?_
      rintro e w7 ⟨rfl, hb⟩
      have t7 := t6.next hb
      have EN7 := EN6.below hb
      have OW7 := OW6.below hb
      have k0 : w7.cell? ⟨w6.heap.size, 0, none⟩ = some (.slice xa x.rn x.rn) := keepNew hb 0
      have k1 : w7.cell? ⟨w6.heap.size, 1, none⟩ = some (.bool x.ghost) := keepNew hb 1
      have k2 : w7.cell? ⟨w6.heap.size, 2, none⟩ = some (.pointer (wptr p sn x.writer)) := keepNew hb 2
      have k3 : w7.cell? ⟨w6.heap.size, 3, none⟩ = some (.int .u64 x.com) := keepNew hb 3
      have kl := keepNewLt hb
      have m0 := cell_below hb g0 gl1
      have m1 := cell_below hb g1 gl1
      have m2 := cell_below hb g2 gl1
      have m3 := cell_below hb g3 gl1
      have ml := Nat.lt_of_lt_of_le gl1 hb.size
      clear hb hnew g0 g1 g2 g3 q0 q1 q2 q3 t6 gl1 EN6 OW6
      have q0 := t7.q0
      have q1 := t7.q1
      have q2 := t7.q2
      have q3 := t7.q3
      have hlw := t7.lt
      rw [← HHX.out] at q0 q1 q2 q3
      have b7 := below1 w7 (Obj.cells #[Value.slice x.ra x.rn x.rc, Value.bool x.ghost, Value.int IntKind.i64 x.writer, Value.int IntKind.u64 x.com] 25)
      have t8 := t7.next b7
      have EN8 := EN7.below b7
      have OW8 := OW7.below b7
      have k0' := cell_below b7 k0 kl
      have k1' := cell_below b7 k1 kl
      have k2' := cell_below b7 k2 kl
      have k3' := cell_below b7 k3 kl
      have kl' : w6.heap.size < (w7.alloc (Obj.cells #[Value.slice x.ra x.rn x.rc, Value.bool x.ghost, Value.int IntKind.i64 x.writer, Value.int IntKind.u64 x.com] 25)).heap.size := Nat.lt_of_lt_of_le kl b7.size
      have hsame := same x xa wa sn p S _ (hxa.out _ EN8) (hxr.out _ t8.bel) hxn.out OW8 hxb
      go_wp2_with fail
      refine hsame.mono ?_
      rintro e w9 ⟨rfl, hb⟩
      clear hsame
      have t9 := t8.next hb
      have EN9 := EN8.below hb
      have OW9 := OW8.below hb
      have n0 := cell_below hb k0' kl'
      have n1 := cell_below hb k1' kl'
      have n2 := cell_below hb k2' kl'
      have n3 := cell_below hb k3' kl'
      have v0 : w9.cell? ⟨w7.heap.size, 0, none⟩ = some (.slice x.ra x.rn x.rc) := keepNew hb 0
      have v1 : w9.cell? ⟨w7.heap.size, 1, none⟩ = some (.bool x.ghost) := keepNew hb 1
      have v2 : w9.cell? ⟨w7.heap.size, 2, none⟩ = some (.int .i64 x.writer) := keepNew hb 2
      have v3 : w9.cell? ⟨w7.heap.size, 3, none⟩ = some (.int .u64 x.com) := keepNew hb 3
      have vl := keepNewLt hb
      clear hb t7 t8 EN7 OW7 EN8 OW8 b7 k0 k1 k2 k3 kl k0' k1' k2' k3' kl' m0 m1 m2 m3 ml q0 q1 q2 q3 hlw
      have hsame := same x xa wa sn p S _ (hxa.out _ EN9) (hxr.out _ t9.bel) hxn.out OW9 hxb
      go_wp2_with fail
      refine hsame.mono ?_
      rintro e w10 ⟨rfl, hb⟩
      have t10 := t9.next hb
      have v1 := cell_below hb v1 vl
      clear hb hsame
      go_wp2
      go_ret
      exact ⟨by simp, t10.bel⟩
    · have hjo : j < on := by omega
      have HHX : Hid (x = V j) := by rw [HX.out, ver_old hjo]; exact rfl
      have hnew := newest h oa on oc V sn _ (inp.below t6.bel).ho inp.bo SH
      rw [hix, encSeen, if_neg (by omega)] at hnew
      have q0 := t6.q0
      have q1 := t6.q1
      have q2 := t6.q2
      have q3 := t6.q3
      go_wp2_with fail
      refine hnew.mono ?_
      rintro e w7 ⟨rfl, hb⟩
      have t7 := t6.next hb
      have EN7 := EN6.below hb
      have OW7 := OW6.below hb
      have k0 : w7.cell? ⟨w6.heap.size, 0, none⟩ = some (.slice xa x.rn x.rn) := keepNew hb 0
      have k1 : w7.cell? ⟨w6.heap.size, 1, none⟩ = some (.bool x.ghost) := keepNew hb 1
      have k2 : w7.cell? ⟨w6.heap.size, 2, none⟩ = some (.pointer (wptr p sn x.writer)) := keepNew hb 2
      have k3 : w7.cell? ⟨w6.heap.size, 3, none⟩ = some (.int .u64 x.com) := keepNew hb 3
      have kl := keepNewLt hb
      have m0 := cell_below hb g0 gl1
      have m1 := cell_below hb g1 gl1
      have m2 := cell_below hb g2 gl1
      have m3 := cell_below hb g3 gl1
      have ml := Nat.lt_of_lt_of_le gl1 hb.size
      clear hb hnew g0 g1 g2 g3 q0 q1 q2 q3 t6 gl1 EN6 OW6
      have hidx := fun w => run_index_at (P := Try.prog) (c := oc) Try.underlying26 size25 inp.ho.pl hjo w
      have i7 := (inp.below t7.bel).ho
      have s0 := i7.c0 j hjo
      have s1' := i7.c1 j hjo
      have s2' := i7.c2 j hjo
      have s3 := i7.c3 j hjo
      have hlv := i7.lt j hjo
      clear i7
      rw [← HHX.out] at s0 s1' s2' s3
      have b7 := below1 w7 (Obj.cells #[Value.slice x.ra x.rn x.rc, Value.bool x.ghost, Value.int IntKind.i64 x.writer, Value.int IntKind.u64 x.com] 25)
      have t8 := t7.next b7
      have EN8 := EN7.below b7
      have OW8 := OW7.below b7
      have k0' := cell_below b7 k0 kl
      have k1' := cell_below b7 k1 kl
      have k2' := cell_below b7 k2 kl
      have k3' := cell_below b7 k3 kl
      have kl' : w6.heap.size < (w7.alloc (Obj.cells #[Value.slice x.ra x.rn x.rc, Value.bool x.ghost, Value.int IntKind.i64 x.writer, Value.int IntKind.u64 x.com] 25)).heap.size := Nat.lt_of_lt_of_le kl b7.size
      have hsame := same x xa wa sn p S _ (hxa.out _ EN8) (hxr.out _ t8.bel) hxn.out OW8 hxb
      go_wp2_with fail
      refine hsame.mono ?_
      rintro e w9 ⟨rfl, hb⟩
      clear hsame
      have t9 := t8.next hb
      have EN9 := EN8.below hb
      have OW9 := OW8.below hb
      have n0 := cell_below hb k0' kl'
      have n1 := cell_below hb k1' kl'
      have n2 := cell_below hb k2' kl'
      have n3 := cell_below hb k3' kl'
      have v0 : w9.cell? ⟨w7.heap.size, 0, none⟩ = some (.slice x.ra x.rn x.rc) := keepNew hb 0
      have v1 : w9.cell? ⟨w7.heap.size, 1, none⟩ = some (.bool x.ghost) := keepNew hb 1
      have v2 : w9.cell? ⟨w7.heap.size, 2, none⟩ = some (.int .i64 x.writer) := keepNew hb 2
      have v3 : w9.cell? ⟨w7.heap.size, 3, none⟩ = some (.int .u64 x.com) := keepNew hb 3
      have vl := keepNewLt hb
      clear hb t7 t8 EN7 OW7 EN8 OW8 b7 k0 k1 k2 k3 kl k0' k1' k2' k3' kl' m0 m1 m2 m3 ml hidx s0 s1' s2' s3 hlv
      have hsame := same x xa wa sn p S _ (hxa.out _ EN9) (hxr.out _ t9.bel) hxn.out OW9 hxb
      go_wp2_with fail
      refine hsame.mono ?_
      rintro e w10 ⟨rfl, hb⟩
      have t10 := t9.next hb
      have v1 := cell_below hb v1 vl
      clear hb hsame
      go_wp2
      go_ret
      exact ⟨by simp, t10.bel⟩
end Go.Proofs.Qxb6628366a
