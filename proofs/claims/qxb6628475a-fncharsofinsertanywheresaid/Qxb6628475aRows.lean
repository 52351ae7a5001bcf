/-
  No cell of these rows narrows 'for every input' (looked for: loops, veiled, ifaces, maps, wideKeys, modest, calm, conditions, laid).
  DERIVED. THE GIVEN ROWS OF THIS SEAT. 2 by the template 'for every input the law returns true; each argument reads behind the call as it read before'; 0 by the template 'total and deterministic' (their statements: Qxb6628475aTotals.lean).
  GIVEN WITH THE SEED: the statements are not yours to turn. If you find one false, say at which input.
  Laid BY PROGRAM, IN A SANDBOX (cutbox-rows.mjs): the forced cells as the released guide's own fill.sh prints them over the translation 1ed77114a445f92f… (all of the seat's roots in one cut). By AI agents, Wed Nov 11 2026. No macro, syntax, notation, axiom, sorry.
-/
import Derived.Test.Qxb6628475aChecked
import GoSem.Claim
import GoSem.ClaimJoined
import GoSem.ClaimMapViews
import Derived.JoinedTies
import Derived.KernelRfl
namespace Go.Proofs.Qxb6628475a
/- THE CELL 'sum', in the pinned program and in every row, IS THE sha256 OF THE DUMP (.gsa) THAT Qxb6628475aProg.lean LOADS. Nothing in Lean hashes anything: it is a label: what it is worth is what the hold of that sum in a sandbox is worth. -/
noncomputable def Try.pinned : Pinned := { name := "qxb6628475a", sum := "1ed77114a445f92fef0efe86c285704ba774773a5bda5236d88bac06ca744a02", checked := Try.checked }
namespace Rows
def none {H : Type} : Left H := { results := [], args := [] }

/-- 'zzlaws_internal_configvalue_b1.FnCharsOfSplitUnionAndCount': WHATEVER THE INPUT: true; the input reads as it did. -/
def fnCharsOfSplitUnionAndCountSpec : ChangeSpec := { name := "fnCharsOfSplitUnionAndCount", fn := fun _ => fun
  | [d1, d2] => { results := [.lit (.bool true)], args := [d1, d2] }
  | _ => none }
def fnCharsOfSplitUnionAndCountRow : OpenClaim := { program := "qxb6628475a", sum := "1ed77114a445f92fef0efe86c285704ba774773a5bda5236d88bac06ca744a02", func := "example.com/federant/federant/zzlaws_internal_configvalue_b1.FnCharsOfSplitUnionAndCount", spec := "fnCharsOfSplitUnionAndCount", apart := false }
def FnCharsOfSplitUnionAndCountSaid : Prop := fnCharsOfSplitUnionAndCountRow.holds Try.pinned (OpenSpec.ofChange fnCharsOfSplitUnionAndCountSpec)

/-- ITS FALSE NEIGHBOUR: 'it returns false'. Refute it at one input. -/
def fnCharsOfSplitUnionAndCountWrong : ChangeSpec := { name := "fnCharsOfSplitUnionAndCount", fn := fun _ => fun
  | [d1, d2] => { results := [.lit (.bool false)], args := [d1, d2] }
  | _ => none }
def FnCharsOfSplitUnionAndCountWrongFalsely : Prop := fnCharsOfSplitUnionAndCountRow.holds Try.pinned (OpenSpec.ofChange fnCharsOfSplitUnionAndCountWrong)

/-- 'zzlaws_internal_configvalue_b1.FnCharsOfInsertAnywhere': WHATEVER THE INPUT: true; the input reads as it did. -/
def fnCharsOfInsertAnywhereSpec : ChangeSpec := { name := "fnCharsOfInsertAnywhere", fn := fun _ => fun
  | [d1, d2, d3] => { results := [.lit (.bool true)], args := [d1, d2, d3] }
  | _ => none }
def fnCharsOfInsertAnywhereRow : OpenClaim := { program := "qxb6628475a", sum := "1ed77114a445f92fef0efe86c285704ba774773a5bda5236d88bac06ca744a02", func := "example.com/federant/federant/zzlaws_internal_configvalue_b1.FnCharsOfInsertAnywhere", spec := "fnCharsOfInsertAnywhere", apart := false }
def FnCharsOfInsertAnywhereSaid : Prop := fnCharsOfInsertAnywhereRow.holds Try.pinned (OpenSpec.ofChange fnCharsOfInsertAnywhereSpec)

/-- ITS FALSE NEIGHBOUR: 'it returns false'. Refute it at one input. -/
def fnCharsOfInsertAnywhereWrong : ChangeSpec := { name := "fnCharsOfInsertAnywhere", fn := fun _ => fun
  | [d1, d2, d3] => { results := [.lit (.bool false)], args := [d1, d2, d3] }
  | _ => none }
def FnCharsOfInsertAnywhereWrongFalsely : Prop := fnCharsOfInsertAnywhereRow.holds Try.pinned (OpenSpec.ofChange fnCharsOfInsertAnywhereWrong)

end Rows
end Go.Proofs.Qxb6628475a
