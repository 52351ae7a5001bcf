/-
  No cell of these rows narrows 'for every input' (looked for: loops, veiled, ifaces, maps, wideKeys, modest, calm, conditions, laid).
  DERIVED. THE GIVEN ROWS OF THIS SEAT. 2 by the template 'for every input the law returns true; each argument reads behind the call as it read before'; 0 by the template 'total and deterministic' (their statements: Qxb6628443aTotals.lean).
  GIVEN WITH THE SEED: the statements are not yours to turn. If you find one false, say at which input.
  Laid BY PROGRAM, IN A SANDBOX (cutbox-rows.mjs): the forced cells as the released guide's own fill.sh prints them over the translation cd7146c49c427205… (all of the seat's roots in one cut). By AI agents, Wed Nov 11 2026. No macro, syntax, notation, axiom, sorry.
-/
import Derived.Test.Qxb6628443aChecked
import GoSem.Claim
import GoSem.ClaimJoined
import GoSem.ClaimMapViews
import Derived.JoinedTies
import Derived.KernelRfl
namespace Go.Proofs.Qxb6628443a
/- THE CELL 'sum', in the pinned program and in every row, IS THE sha256 OF THE DUMP (.gsa) THAT Qxb6628443aProg.lean LOADS. Nothing in Lean hashes anything: it is a label: what it is worth is what the hold of that sum in a sandbox is worth. -/
noncomputable def Try.pinned : Pinned := { name := "qxb6628443a", sum := "cd7146c49c427205269ad50635c776f8ecb40a3646197587789b1a2984555ba9", checked := Try.checked }
namespace Rows
def none {H : Type} : Left H := { results := [], args := [] }

/-- 'zzlaws_internal_lease_b1.FnNewTallyIsLastWinsSnapshot': WHATEVER THE INPUT: true; the input reads as it did. -/
def fnNewTallyIsLastWinsSnapshotSpec : ChangeSpec := { name := "fnNewTallyIsLastWinsSnapshot", fn := fun _ => fun
  | [d1, d2, d3, d4, d5, d6] => { results := [.lit (.bool true)], args := [d1, d2, d3, d4, d5, d6] }
  | _ => none }
def fnNewTallyIsLastWinsSnapshotRow : OpenClaim := { program := "qxb6628443a", sum := "cd7146c49c427205269ad50635c776f8ecb40a3646197587789b1a2984555ba9", func := "example.com/cluster-lease/cluster-lease/zzlaws_internal_lease_b1.FnNewTallyIsLastWinsSnapshot", spec := "fnNewTallyIsLastWinsSnapshot", apart := false }
def FnNewTallyIsLastWinsSnapshotSaid : Prop := fnNewTallyIsLastWinsSnapshotRow.holds Try.pinned (OpenSpec.ofChange fnNewTallyIsLastWinsSnapshotSpec)

/-- ITS FALSE NEIGHBOUR: 'it returns false'. Refute it at one input. -/
def fnNewTallyIsLastWinsSnapshotWrong : ChangeSpec := { name := "fnNewTallyIsLastWinsSnapshot", fn := fun _ => fun
  | [d1, d2, d3, d4, d5, d6] => { results := [.lit (.bool false)], args := [d1, d2, d3, d4, d5, d6] }
  | _ => none }
def FnNewTallyIsLastWinsSnapshotWrongFalsely : Prop := fnNewTallyIsLastWinsSnapshotRow.holds Try.pinned (OpenSpec.ofChange fnNewTallyIsLastWinsSnapshotWrong)

/-- 'zzlaws_internal_lease_b1.FnNewTallyOwnsReleasesAndDropsGranted': WHATEVER THE INPUT: true; the input reads as it did. -/
def fnNewTallyOwnsReleasesAndDropsGrantedSpec : ChangeSpec := { name := "fnNewTallyOwnsReleasesAndDropsGranted", fn := fun _ => fun
  | [d1, d2, d3, d4, d5, d6] => { results := [.lit (.bool true)], args := [d1, d2, d3, d4, d5, d6] }
  | _ => none }
def fnNewTallyOwnsReleasesAndDropsGrantedRow : OpenClaim := { program := "qxb6628443a", sum := "cd7146c49c427205269ad50635c776f8ecb40a3646197587789b1a2984555ba9", func := "example.com/cluster-lease/cluster-lease/zzlaws_internal_lease_b1.FnNewTallyOwnsReleasesAndDropsGranted", spec := "fnNewTallyOwnsReleasesAndDropsGranted", apart := false }
def FnNewTallyOwnsReleasesAndDropsGrantedSaid : Prop := fnNewTallyOwnsReleasesAndDropsGrantedRow.holds Try.pinned (OpenSpec.ofChange fnNewTallyOwnsReleasesAndDropsGrantedSpec)

/-- ITS FALSE NEIGHBOUR: 'it returns false'. Refute it at one input. -/
def fnNewTallyOwnsReleasesAndDropsGrantedWrong : ChangeSpec := { name := "fnNewTallyOwnsReleasesAndDropsGranted", fn := fun _ => fun
  | [d1, d2, d3, d4, d5, d6] => { results := [.lit (.bool false)], args := [d1, d2, d3, d4, d5, d6] }
  | _ => none }
def FnNewTallyOwnsReleasesAndDropsGrantedWrongFalsely : Prop := fnNewTallyOwnsReleasesAndDropsGrantedRow.holds Try.pinned (OpenSpec.ofChange fnNewTallyOwnsReleasesAndDropsGrantedWrong)

end Rows
end Go.Proofs.Qxb6628443a
