/-
  DERIVED. GIVEN WITH THE SEED: THE CARDS: each row of Qxb6628425aFmtRows.lean that lists a variable, with what it lists TIED to the program's text (the seventh form; the later family's looks); each row that meets fmt, with fmt's text TOLD by the authors' own Lean function (tested against real Go, not proved from fmt's source: count such statements apart). THE CARD IS WHAT COUNTS. Prove the row's statement (the work); the ties are given (Qxb6628425aFmtTie.lean); close each card by the builder's one call (the guide's Derived/Test/ToyasCard.lean, 'card_holds'). Laid BY PROGRAM, IN A SANDBOX (cutbox-door.mjs). By AI agents, Wed Nov 11 2026. No macro, syntax, notation, axiom, sorry.
-/
import Derived.Test.Qxb6628425aFmtRows
import GoSem.ClaimSeven
namespace Go.Proofs.Qxb6628425aFmt
namespace Rows

/-- THE TOLD CARD OF 'zzlaws_related_b1.FnTallyMatchesBoardCount'. -/
def fnTallyMatchesBoardCountCard : Claim7 := { stood := { row := fnTallyMatchesBoardCountRow, standIns := [], harness := (true, "b4b4aa853ff12258b751c546ac89aed8a5c03166044c7cc71e93b35f574ab1c1"), looks := false }, told := true, goes := false }
def FnTallyMatchesBoardCountToldSaid : Prop := Claim7.holds Tryf.pinned (.plain (OpenSpec.ofChange fnTallyMatchesBoardCountSpec)) fnTallyMatchesBoardCountCard
/-- ITS FALSE NEIGHBOUR. Refute it at one input. -/
def FnTallyMatchesBoardCountToldWrongFalsely : Prop := Claim7.holds Tryf.pinned (.plain (OpenSpec.ofChange fnTallyMatchesBoardCountWrong)) fnTallyMatchesBoardCountCard

/-- THE TOLD CARD OF 'zzlaws_related_b1.FnTallyOneMoreAttendee'. -/
def fnTallyOneMoreAttendeeCard : Claim7 := { stood := { row := fnTallyOneMoreAttendeeRow, standIns := [], harness := (true, "b4b4aa853ff12258b751c546ac89aed8a5c03166044c7cc71e93b35f574ab1c1"), looks := false }, told := true, goes := false }
def FnTallyOneMoreAttendeeToldSaid : Prop := Claim7.holds Tryf.pinned (.plain (OpenSpec.ofChange fnTallyOneMoreAttendeeSpec)) fnTallyOneMoreAttendeeCard
/-- ITS FALSE NEIGHBOUR. Refute it at one input. -/
def FnTallyOneMoreAttendeeToldWrongFalsely : Prop := Claim7.holds Tryf.pinned (.plain (OpenSpec.ofChange fnTallyOneMoreAttendeeWrong)) fnTallyOneMoreAttendeeCard
end Rows
end Go.Proofs.Qxb6628425aFmt
