/-
  No cell of these rows narrows 'for every input' (looked for: loops, veiled, ifaces, maps, wideKeys, modest, calm, conditions, laid).
  DERIVED. THE GIVEN ROWS OF THIS SEAT. 2 by the template 'for every input the law returns true; each argument reads behind the call as it read before'; 0 by the template 'total and deterministic' (their statements: Qxb6628366aTotals.lean).
  GIVEN WITH THE SEED: the statements are not yours to turn. If you find one false, say at which input.
  Laid BY PROGRAM, IN A SANDBOX (cutbox-rows.mjs): the forced cells as the released guide's own fill.sh prints them over the translation bdc23221baa6a124… (all of the seat's roots in one cut). By AI agents, Wed Nov 11 2026. No macro, syntax, notation, axiom, sorry.
-/
import Derived.Test.Qxb6628366aChecked
import GoSem.Claim
import GoSem.ClaimJoined
import GoSem.ClaimMapViews
import Derived.JoinedTies
import Derived.KernelRfl
namespace Go.Proofs.Qxb6628366a
/- THE CELL 'sum', in the pinned program and in every row, IS THE sha256 OF THE DUMP (.gsa) THAT Qxb6628366aProg.lean LOADS. Nothing in Lean hashes anything: it is a label: what it is worth is what the hold of that sum in a sandbox is worth. -/
noncomputable def Try.pinned : Pinned := { name := "qxb6628366a", sum := "bdc23221baa6a124e505e10f6b37fd54d011ef3215b9a937b7bb2bc51ab4749f", checked := Try.checked }
namespace Rows
def none {H : Type} : Left H := { results := [], args := [] }

/-- 'zzlaws_internal_storage_b1.FnSeenIsNewestVisibleVersion': WHATEVER THE INPUT: true; the input reads as it did. -/
def fnSeenIsNewestVisibleVersionSpec : ChangeSpec := { name := "fnSeenIsNewestVisibleVersion", fn := fun _ => fun
  | [d1, d2, d3, d4, d5] => { results := [.lit (.bool true)], args := [d1, d2, d3, d4, d5] }
  | _ => none }
def fnSeenIsNewestVisibleVersionRow : OpenClaim := { program := "qxb6628366a", sum := "bdc23221baa6a124e505e10f6b37fd54d011ef3215b9a937b7bb2bc51ab4749f", func := "example.com/crossgrain/crossgrain/zzlaws_internal_storage_b1.FnSeenIsNewestVisibleVersion", spec := "fnSeenIsNewestVisibleVersion", inPlace := ["sync/atomic.StoreUint32", "sync/atomic.LoadUint32"], apart := false }
def FnSeenIsNewestVisibleVersionSaid : Prop := fnSeenIsNewestVisibleVersionRow.holds Try.pinned (OpenSpec.ofChange fnSeenIsNewestVisibleVersionSpec)

/-- ITS FALSE NEIGHBOUR: 'it returns false'. Refute it at one input. -/
def fnSeenIsNewestVisibleVersionWrong : ChangeSpec := { name := "fnSeenIsNewestVisibleVersion", fn := fun _ => fun
  | [d1, d2, d3, d4, d5] => { results := [.lit (.bool false)], args := [d1, d2, d3, d4, d5] }
  | _ => none }
def FnSeenIsNewestVisibleVersionWrongFalsely : Prop := fnSeenIsNewestVisibleVersionRow.holds Try.pinned (OpenSpec.ofChange fnSeenIsNewestVisibleVersionWrong)

/-- 'zzlaws_internal_storage_b1.FnSeenOutsideReaderIgnoresSnapshot': WHATEVER THE INPUT: true; the input reads as it did. -/
def fnSeenOutsideReaderIgnoresSnapshotSpec : ChangeSpec := { name := "fnSeenOutsideReaderIgnoresSnapshot", fn := fun _ => fun
  | [d1, d2, d3, d4, d5] => { results := [.lit (.bool true)], args := [d1, d2, d3, d4, d5] }
  | _ => none }
def fnSeenOutsideReaderIgnoresSnapshotRow : OpenClaim := { program := "qxb6628366a", sum := "bdc23221baa6a124e505e10f6b37fd54d011ef3215b9a937b7bb2bc51ab4749f", func := "example.com/crossgrain/crossgrain/zzlaws_internal_storage_b1.FnSeenOutsideReaderIgnoresSnapshot", spec := "fnSeenOutsideReaderIgnoresSnapshot", inPlace := ["sync/atomic.StoreUint32", "sync/atomic.LoadUint32"], apart := false }
def FnSeenOutsideReaderIgnoresSnapshotSaid : Prop := fnSeenOutsideReaderIgnoresSnapshotRow.holds Try.pinned (OpenSpec.ofChange fnSeenOutsideReaderIgnoresSnapshotSpec)

/-- ITS FALSE NEIGHBOUR: 'it returns false'. Refute it at one input. -/
def fnSeenOutsideReaderIgnoresSnapshotWrong : ChangeSpec := { name := "fnSeenOutsideReaderIgnoresSnapshot", fn := fun _ => fun
  | [d1, d2, d3, d4, d5] => { results := [.lit (.bool false)], args := [d1, d2, d3, d4, d5] }
  | _ => none }
def FnSeenOutsideReaderIgnoresSnapshotWrongFalsely : Prop := fnSeenOutsideReaderIgnoresSnapshotRow.holds Try.pinned (OpenSpec.ofChange fnSeenOutsideReaderIgnoresSnapshotWrong)

end Rows
end Go.Proofs.Qxb6628366a
