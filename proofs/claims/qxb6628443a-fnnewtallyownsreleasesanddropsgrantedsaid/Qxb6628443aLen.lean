import Derived.Test.Qxb6628443aW8
namespace Go.Proofs.Qxb6628443a
open Go.RowKit

theorem run_mlen {κ : Type} {enc : κ → Value} {P : Program} {t k e : TypeId} {w : World} {b : Nat} {l : List (κ × Value)} (ht : P.underlying t = some (.map k e)) (h : MapAt enc w b l) {n : Nat} (hn : l.length = n) (ty : TypeId) :
    (Builtin.len_ #[t] ty #[.map (some b)]).run P w = .ok (.int .i64 (n : Int)) w := by
  obtain ⟨es, clock, hb, hp⟩ := h
  have hs : es.size = n := by
    have := congrArg List.length hp
    simp [pairs, encs] at this
    omega
  simp [Builtin.len_, run_underlying ht, MapKept.run_getObj_map hb, Result.andThen, hs, goInt]
theorem Tal.low {lo lo' : Nat} {wr : World} {tb lb bb gb : Nat} {tok mem : Int} {ml mb : List (ByteArray × Value)} {mg : List (Int × Value)} {ra : Option Addr} {rc rn : Nat} {R : Nat → Nat → Value} (h : Tal lo wr tb lb bb gb tok mem ml mb mg ra rc rn R) (hl : lo' ≤ lo) : Tal lo' wr tb lb bb gb tok mem ml mb mg ra rc rn R :=
  ⟨h.n1, h.n2, h.n3, Nat.le_trans hl h.ot, Nat.le_trans hl h.ol, Nat.le_trans hl h.ob, Nat.le_trans hl h.og, fun p => Nat.le_trans hl (h.orr p), h.l, h.b, h.g, h.c0, h.c1, h.c2, h.c3, h.c4, h.c5, h.r⟩
end Go.Proofs.Qxb6628443a
