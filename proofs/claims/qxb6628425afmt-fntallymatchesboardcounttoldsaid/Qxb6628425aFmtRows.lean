/-
  No cell of these rows narrows 'for every input' (looked for: loops, veiled, ifaces, maps, wideKeys, modest, calm, conditions, laid).
  DERIVED. THE GIVEN ROWS OF THIS SEAT. 2 by the template 'for every input the law returns true; each argument reads behind the call as it read before'; 0 by the template 'total and deterministic' (their statements: Qxb6628425aFmtTotals.lean).
  GIVEN WITH THE SEED: the statements are not yours to turn. If you find one false, say at which input.
  Laid BY PROGRAM, IN A SANDBOX (cutbox-rows.mjs): the forced cells as the released guide's own fill.sh prints them over the translation e47d27dc050b524d… (all of the seat's roots in one cut). By AI agents, Wed Nov 11 2026. No macro, syntax, notation, axiom, sorry.
-/
import Derived.Test.Qxb6628425aFmtChecked
import GoSem.Claim
import GoSem.ClaimJoined
import GoSem.ClaimMapViews
import Derived.JoinedTies
import Derived.KernelRfl
namespace Go.Proofs.Qxb6628425aFmt
/- THE CELL 'sum', in the pinned program and in every row, IS THE sha256 OF THE DUMP (.gsa) THAT Qxb6628425aFmtProg.lean LOADS. Nothing in Lean hashes anything: it is a label: what it is worth is what the hold of that sum in a sandbox is worth. -/
noncomputable def Tryf.pinned : Pinned := { name := "qxb6628425afmt", sum := "e47d27dc050b524d2edc1634c7333b4d7801120a9e84f589495a782cfd564d59", checked := Tryf.checked }
namespace Rows
def none {H : Type} : Left H := { results := [], args := [] }

/-- 'zzlaws_related_b1.FnTallyMatchesBoardCount': WHATEVER THE INPUT: true; the input reads as it did. -/
def fnTallyMatchesBoardCountSpec : ChangeSpec := { name := "fnTallyMatchesBoardCount", fn := fun _ => fun
  | [d1, d2, d3, d4] => { results := [.lit (.bool true)], args := [d1, d2, d3, d4] }
  | _ => none }
def fnTallyMatchesBoardCountRow : OpenClaim := { program := "qxb6628425afmt", sum := "e47d27dc050b524d2edc1634c7333b4d7801120a9e84f589495a782cfd564d59", func := "example.com/armslength/armslength/zzlaws_related_b1.FnTallyMatchesBoardCount", spec := "fnTallyMatchesBoardCount", stops := ["fmt.errorf"], inPlace := ["fmt.errorf"], apart := false }
/-- NO THEOREM (fmt's text is open here; it may be false): for the released tool's asking of the row's closed facts alone. THE STATEMENT IS 'FnTallyMatchesBoardCountToldSaid' (Qxb6628425aFmtCards.lean). -/
def FnTallyMatchesBoardCountFormAsk : Prop := fnTallyMatchesBoardCountRow.holds Tryf.pinned (OpenSpec.ofChange fnTallyMatchesBoardCountSpec)

/-- ITS FALSE NEIGHBOUR: 'it returns false'. Refute it at one input. -/
def fnTallyMatchesBoardCountWrong : ChangeSpec := { name := "fnTallyMatchesBoardCount", fn := fun _ => fun
  | [d1, d2, d3, d4] => { results := [.lit (.bool false)], args := [d1, d2, d3, d4] }
  | _ => none }
def FnTallyMatchesBoardCountWrongFormAsk : Prop := fnTallyMatchesBoardCountRow.holds Tryf.pinned (OpenSpec.ofChange fnTallyMatchesBoardCountWrong)

/-- 'zzlaws_related_b1.FnTallyOneMoreAttendee': WHATEVER THE INPUT: true; the input reads as it did. -/
def fnTallyOneMoreAttendeeSpec : ChangeSpec := { name := "fnTallyOneMoreAttendee", fn := fun _ => fun
  | [d1, d2, d3, d4, d5, d6] => { results := [.lit (.bool true)], args := [d1, d2, d3, d4, d5, d6] }
  | _ => none }
def fnTallyOneMoreAttendeeRow : OpenClaim := { program := "qxb6628425afmt", sum := "e47d27dc050b524d2edc1634c7333b4d7801120a9e84f589495a782cfd564d59", func := "example.com/armslength/armslength/zzlaws_related_b1.FnTallyOneMoreAttendee", spec := "fnTallyOneMoreAttendee", stops := ["fmt.errorf"], inPlace := ["fmt.errorf"], apart := false }
/-- NO THEOREM (fmt's text is open here; it may be false): for the released tool's asking of the row's closed facts alone. THE STATEMENT IS 'FnTallyOneMoreAttendeeToldSaid' (Qxb6628425aFmtCards.lean). -/
def FnTallyOneMoreAttendeeFormAsk : Prop := fnTallyOneMoreAttendeeRow.holds Tryf.pinned (OpenSpec.ofChange fnTallyOneMoreAttendeeSpec)

/-- ITS FALSE NEIGHBOUR: 'it returns false'. Refute it at one input. -/
def fnTallyOneMoreAttendeeWrong : ChangeSpec := { name := "fnTallyOneMoreAttendee", fn := fun _ => fun
  | [d1, d2, d3, d4, d5, d6] => { results := [.lit (.bool false)], args := [d1, d2, d3, d4, d5, d6] }
  | _ => none }
def FnTallyOneMoreAttendeeWrongFormAsk : Prop := fnTallyOneMoreAttendeeRow.holds Tryf.pinned (OpenSpec.ofChange fnTallyOneMoreAttendeeWrong)

end Rows
end Go.Proofs.Qxb6628425aFmt
