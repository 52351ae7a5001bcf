/-
  Seat b6628443a. What 'NewTally' lays in memory.
-/
import Derived.Test.Qxb6628443aMap
import Derived.Test.Qxb6628443aW6
namespace Go.Proofs.Qxb6628443a
open Go.RowKit

def LI.agg (r : LI) : Value := .agg #[.string r.name, .string r.holder, .int .u64 r.token, .int .i64 r.ttl, .int .i64 r.rem, .string r.key]
def BI.agg (r : BI) : Value := .agg #[.string r.name, .int .u64 r.units, .int .u64 0]
def GI.agg (r : GI) : Value := .agg #[.string r.budget, .string r.holder, .int .u64 r.token, .int .u64 r.units, .int .i64 r.ttl, .int .i64 r.rem, .string r.key]

abbrev eS : ByteArray → Value := fun s => .string s
abbrev eI : Int → Value := fun x => .int .u64 x

/-- A tally in memory, all of it in blocks from 'lo' on. -/
structure Tal (lo : Nat) (wr : World) (tb lb bb gb : Nat) (tok mem : Int) (ml mb : List (ByteArray × Value)) (mg : List (Int × Value)) (ra : Option Addr) (rc rn : Nat) (R : Nat → Nat → Value) : Prop where
  n1 : lb ≠ bb
  n2 : lb ≠ gb
  n3 : bb ≠ gb
  ot : lo ≤ tb
  ol : lo ≤ lb
  ob : lo ≤ bb
  og : lo ≤ gb
  orr : 0 < rn → lo ≤ blk ra
  l : MapAt eS wr lb ml
  b : MapAt eS wr bb mb
  g : MapAt eI wr gb mg
  c0 : wr.cell? ⟨tb, 0, none⟩ = some (.map (some lb))
  c1 : wr.cell? ⟨tb, 1, none⟩ = some (.int .u64 tok)
  c2 : wr.cell? ⟨tb, 2, none⟩ = some (.slice ra rn rc)
  c3 : wr.cell? ⟨tb, 3, none⟩ = some (.int .i64 mem)
  c4 : wr.cell? ⟨tb, 4, none⟩ = some (.map (some bb))
  c5 : wr.cell? ⟨tb, 5, none⟩ = some (.map (some gb))
  r : Recs wr ra 3 rn R

theorem cell_same {w w' : World} {p : Addr} (h : w'.heap[p.block]? = w.heap[p.block]?) : w'.cell? p = w.cell? p := by
  unfold World.cell?; rw [h]
/-- The blocks from 'lo' on are as they were. -/
def SameFrom (lo : Nat) (w w' : World) : Prop := ∀ q, lo ≤ q → q < w.heap.size → w'.heap[q]? = w.heap[q]?
theorem SameFrom.of_below {lo : Nat} {w w' : World} (h : Below w.heap.size w w') : SameFrom lo w w' := fun q _ hq => h.block q hq
theorem SameFrom.cell {lo : Nat} {w w' : World} (h : SameFrom lo w w') {p : Addr} {v : Value} (hc : w.cell? p = some v) (hp : lo ≤ p.block) : w'.cell? p = some v :=
  (cell_same (h p.block hp (lt_of_cell hc))).trans hc
theorem SameFrom.map {κ : Type} {enc : κ → Value} {lo : Nat} {w w' : World} (h : SameFrom lo w w') {b : Nat} {l : List (κ × Value)} (hm : MapAt enc w b l) (hp : lo ≤ b) : MapAt enc w' b l := by
  have hlt := hm.lt
  obtain ⟨es, clock, h1, h2⟩ := hm
  exact ⟨es, clock, (h b hp hlt).trans h1, h2⟩

section
variable {lo : Nat} {wr : World} {tb lb bb gb : Nat} {tok mem : Int} {ml mb : List (ByteArray × Value)} {mg : List (Int × Value)} {ra : Option Addr} {rc rn : Nat} {R : Nat → Nat → Value}

theorem Tal.keep (h : Tal lo wr tb lb bb gb tok mem ml mb mg ra rc rn R) {wr' : World} (hk : SameFrom lo wr wr') : Tal lo wr' tb lb bb gb tok mem ml mb mg ra rc rn R :=
  ⟨h.n1, h.n2, h.n3, h.ot, h.ol, h.ob, h.og, h.orr, hk.map h.l h.ol, hk.map h.b h.ob, hk.map h.g h.og, hk.cell h.c0 h.ot, hk.cell h.c1 h.ot, hk.cell h.c2 h.ot, hk.cell h.c3 h.ot, hk.cell h.c4 h.ot, hk.cell h.c5 h.ot,
    ⟨h.r.pl, fun i hi j hj => hk.cell (h.r.c i hi j hj) (h.orr (by omega))⟩⟩
theorem Tal.grow (h : Tal lo wr tb lb bb gb tok mem ml mb mg ra rc rn R) {wr' : World} (hb : Below wr.heap.size wr wr') : Tal lo wr' tb lb bb gb tok mem ml mb mg ra rc rn R := h.keep (.of_below hb)
theorem no_cell {κ : Type} {enc : κ → Value} {w : World} {b : Nat} {l : List (κ × Value)} (hm : MapAt enc w b l) {p : Addr} {v : Value} (hc : w.cell? p = some v) : p.block ≠ b := by
  intro e
  obtain ⟨es, clock, h1, h2⟩ := hm
  subst e
  simp [World.cell?, h1] at hc
theorem putObj_keeps {κ : Type} {enc : κ → Value} {w : World} {b : Nat} {l : List (κ × Value)} (hm : MapAt enc w b l) (o : Obj) {p : Addr} {v : Value} (hc : w.cell? p = some v) : (putObj w b o).cell? p = some v :=
  (putObj_cell w b o p (no_cell hm hc)).trans hc
theorem Tal.putL (h : Tal lo wr tb lb bb gb tok mem ml mb mg ra rc rn R) {o : Obj} {ml' : List (ByteArray × Value)} (hm : MapAt eS (putObj wr lb o) lb ml') : Tal lo (putObj wr lb o) tb lb bb gb tok mem ml' mb mg ra rc rn R :=
  ⟨h.n1, h.n2, h.n3, h.ot, h.ol, h.ob, h.og, h.orr, hm, h.b.other h.n1, h.g.other h.n2, putObj_keeps h.l o h.c0, putObj_keeps h.l o h.c1, putObj_keeps h.l o h.c2, putObj_keeps h.l o h.c3, putObj_keeps h.l o h.c4, putObj_keeps h.l o h.c5,
    ⟨h.r.pl, fun i hi j hj => putObj_keeps h.l o (h.r.c i hi j hj)⟩⟩
theorem Tal.putB (h : Tal lo wr tb lb bb gb tok mem ml mb mg ra rc rn R) {o : Obj} {mb' : List (ByteArray × Value)} (hm : MapAt eS (putObj wr bb o) bb mb') : Tal lo (putObj wr bb o) tb lb bb gb tok mem ml mb' mg ra rc rn R :=
  ⟨h.n1, h.n2, h.n3, h.ot, h.ol, h.ob, h.og, h.orr, h.l.other h.n1.symm, hm, h.g.other h.n3, putObj_keeps h.b o h.c0, putObj_keeps h.b o h.c1, putObj_keeps h.b o h.c2, putObj_keeps h.b o h.c3, putObj_keeps h.b o h.c4, putObj_keeps h.b o h.c5,
    ⟨h.r.pl, fun i hi j hj => putObj_keeps h.b o (h.r.c i hi j hj)⟩⟩
theorem Tal.putG (h : Tal lo wr tb lb bb gb tok mem ml mb mg ra rc rn R) {o : Obj} {mg' : List (Int × Value)} (hm : MapAt eI (putObj wr gb o) gb mg') : Tal lo (putObj wr gb o) tb lb bb gb tok mem ml mb mg' ra rc rn R :=
  ⟨h.n1, h.n2, h.n3, h.ot, h.ol, h.ob, h.og, h.orr, h.l.other h.n2.symm, h.b.other h.n3.symm, hm, putObj_keeps h.g o h.c0, putObj_keeps h.g o h.c1, putObj_keeps h.g o h.c2, putObj_keeps h.g o h.c3, putObj_keeps h.g o h.c4, putObj_keeps h.g o h.c5,
    ⟨h.r.pl, fun i hi j hj => putObj_keeps h.g o (h.r.c i hi j hj)⟩⟩
end

/-- What 'NewTally' hands back. -/
def TalRet (w : World) (ln : Nat) (L : Nat → LI) (tok : Int) (ra : Option Addr) (rn : Nat) (R : Nat → RI) (mem : Int) (bn : Nat) (B : Nat → BI) (gn : Nat) (G : Nat → GI) (e : Ending) (w' : World) : Prop :=
  ∃ tb lb bb gb qa qc, e = .returned (.pointer (some ⟨tb, 0, none⟩)) ∧ Below w.heap.size w w' ∧ qa.isNone = ra.isNone ∧
    Tal w.heap.size w' tb lb bb gb tok mem (foldL (fun i => (L i).name) (fun i => (L i).agg) ln) (foldL (fun i => (B i).name) (fun i => (B i).agg) bn) (foldL (fun i => (G i).token) (fun i => (G i).agg) gn) qa qc rn (fun i => (R i).c)

theorem clone (ra : Option Addr) (n c : Nat) (R : Nat → RI) (w : World) (hr : Recs w ra 3 n (fun i => (R i).c)) (hn : n ≤ 1048576) (nr : ra = none → n = 0 ∧ c = 0) : Calls Try.prog 22 #[.slice ra n c] w (CloneRet w ra n (fun i => (R i).c)) := by
  cases ra with
  | none => obtain ⟨rfl, rfl⟩ := nr rfl; exact clone_nil _ w
  | some a => exact clone_some a n c _ w hr hn (fun i j => by
      unfold RI.c
      split <;> rfl)
end Go.Proofs.Qxb6628443a
