/-
  DERIVED. GIVEN WITH THE SEED: THE CARDS: each row of Qxb6613845aFmtRows.lean that lists a variable, with what it lists TIED to the program's text (the seventh form; the later family's looks); each row that meets fmt, with fmt's text TOLD by the authors' own Lean function (tested against real Go, not proved from fmt's source: count such statements apart). THE CARD IS WHAT COUNTS. Prove the row's statement (the work); the ties are given (Qxb6613845aFmtTie.lean); close each card by the builder's one call (the guide's Derived/Test/ToyasCard.lean, 'card_holds'). Laid BY PROGRAM, IN A SANDBOX (cutbox-door.mjs). By AI agents, Wed Nov 11 2026. No macro, syntax, notation, axiom, sorry.
-/
import Derived.Test.Qxb6613845aFmtRows
import GoSem.ClaimSeven
namespace Go.Proofs.Qxb6613845aFmt
namespace Rows

/-- THE TOLD CARD OF 'zzlaws_internal_checkpoint_b1.FnLoadTreeAcceptsExactlyAndPeaksGivesThemBack'. -/
def fnLoadTreeAcceptsExactlyAndPeaksGivesThemBackCard : Claim7 := { stood := { row := fnLoadTreeAcceptsExactlyAndPeaksGivesThemBackRow, standIns := [], harness := (true, "1f5d33c121f71438bfb4e51207c06f1cf65d7059d9acb6987729d3780a6607c5"), looks := false }, told := true, goes := false }
def FnLoadTreeAcceptsExactlyAndPeaksGivesThemBackToldSaid : Prop := Claim7.holds Tryf.pinned (.plain (OpenSpec.ofChange fnLoadTreeAcceptsExactlyAndPeaksGivesThemBackSpec)) fnLoadTreeAcceptsExactlyAndPeaksGivesThemBackCard
/-- ITS FALSE NEIGHBOUR. Refute it at one input. -/
def FnLoadTreeAcceptsExactlyAndPeaksGivesThemBackToldWrongFalsely : Prop := Claim7.holds Tryf.pinned (.plain (OpenSpec.ofChange fnLoadTreeAcceptsExactlyAndPeaksGivesThemBackWrong)) fnLoadTreeAcceptsExactlyAndPeaksGivesThemBackCard

/-- THE TOLD CARD OF 'zzlaws_internal_checkpoint_b1.FnHeadJoinsFirstPeakToHeadOfRest'. -/
def fnHeadJoinsFirstPeakToHeadOfRestCard : Claim7 := { stood := { row := fnHeadJoinsFirstPeakToHeadOfRestRow, standIns := [], harness := (true, "1f5d33c121f71438bfb4e51207c06f1cf65d7059d9acb6987729d3780a6607c5"), looks := false }, told := true, goes := false }
def FnHeadJoinsFirstPeakToHeadOfRestToldSaid : Prop := Claim7.holds Tryf.pinned (.plain (OpenSpec.ofChange fnHeadJoinsFirstPeakToHeadOfRestSpec)) fnHeadJoinsFirstPeakToHeadOfRestCard
/-- ITS FALSE NEIGHBOUR. Refute it at one input. -/
def FnHeadJoinsFirstPeakToHeadOfRestToldWrongFalsely : Prop := Claim7.holds Tryf.pinned (.plain (OpenSpec.ofChange fnHeadJoinsFirstPeakToHeadOfRestWrong)) fnHeadJoinsFirstPeakToHeadOfRestCard
end Rows
end Go.Proofs.Qxb6613845aFmt
