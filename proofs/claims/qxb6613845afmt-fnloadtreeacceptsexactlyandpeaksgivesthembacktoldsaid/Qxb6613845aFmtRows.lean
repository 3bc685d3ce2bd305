/-
  No cell of these rows narrows 'for every input' (looked for: loops, veiled, ifaces, maps, wideKeys, modest, calm, conditions, laid).
  DERIVED. THE GIVEN ROWS OF THIS SEAT. 2 by the template 'for every input the law returns true; each argument reads behind the call as it read before'; 0 by the template 'total and deterministic' (their statements: Qxb6613845aFmtTotals.lean).
  GIVEN WITH THE SEED: the statements are not yours to turn. If you find one false, say at which input.
  Laid BY PROGRAM, IN A SANDBOX (cutbox-rows.mjs): the forced cells as the released guide's own fill.sh prints them over the translation a5f490d656a51d81… (all of the seat's roots in one cut). By AI agents, Wed Nov 11 2026. No macro, syntax, notation, axiom, sorry.
-/
import Derived.Test.Qxb6613845aFmtChecked
import GoSem.Claim
import GoSem.ClaimJoined
import GoSem.ClaimMapViews
import Derived.JoinedTies
import Derived.KernelRfl
namespace Go.Proofs.Qxb6613845aFmt
/- THE CELL 'sum', in the pinned program and in every row, IS THE sha256 OF THE DUMP (.gsa) THAT Qxb6613845aFmtProg.lean LOADS. Nothing in Lean hashes anything: it is a label: what it is worth is what the hold of that sum in a sandbox is worth. -/
noncomputable def Tryf.pinned : Pinned := { name := "qxb6613845afmt", sum := "a5f490d656a51d81bae9688a7373bf4279797731eea5de7f0d4b1331233ff01d", checked := Tryf.checked }
namespace Rows
def none {H : Type} : Left H := { results := [], args := [] }

/-- 'zzlaws_internal_checkpoint_b1.FnLoadTreeAcceptsExactlyAndPeaksGivesThemBack': WHATEVER THE INPUT: true; the input reads as it did. -/
def fnLoadTreeAcceptsExactlyAndPeaksGivesThemBackSpec : ChangeSpec := { name := "fnLoadTreeAcceptsExactlyAndPeaksGivesThemBack", fn := fun _ => fun
  | [d1, d2] => { results := [.lit (.bool true)], args := [d1, d2] }
  | _ => none }
def fnLoadTreeAcceptsExactlyAndPeaksGivesThemBackRow : OpenClaim := { program := "qxb6613845afmt", sum := "a5f490d656a51d81bae9688a7373bf4279797731eea5de7f0d4b1331233ff01d", func := "example.com/ledgerline/ledgerline/zzlaws_internal_checkpoint_b1.FnLoadTreeAcceptsExactlyAndPeaksGivesThemBack", spec := "fnLoadTreeAcceptsExactlyAndPeaksGivesThemBack", stops := ["fmt.errorf"], inPlace := ["fmt.errorf"], unfollowed := true, recurses := true, apart := false }
/-- NO THEOREM (fmt's text is open here; it may be false): for the released tool's asking of the row's closed facts alone. THE STATEMENT IS 'FnLoadTreeAcceptsExactlyAndPeaksGivesThemBackToldSaid' (Qxb6613845aFmtCards.lean). -/
def FnLoadTreeAcceptsExactlyAndPeaksGivesThemBackFormAsk : Prop := fnLoadTreeAcceptsExactlyAndPeaksGivesThemBackRow.holds Tryf.pinned (OpenSpec.ofChange fnLoadTreeAcceptsExactlyAndPeaksGivesThemBackSpec)

/-- ITS FALSE NEIGHBOUR: 'it returns false'. Refute it at one input. -/
def fnLoadTreeAcceptsExactlyAndPeaksGivesThemBackWrong : ChangeSpec := { name := "fnLoadTreeAcceptsExactlyAndPeaksGivesThemBack", fn := fun _ => fun
  | [d1, d2] => { results := [.lit (.bool false)], args := [d1, d2] }
  | _ => none }
def FnLoadTreeAcceptsExactlyAndPeaksGivesThemBackWrongFormAsk : Prop := fnLoadTreeAcceptsExactlyAndPeaksGivesThemBackRow.holds Tryf.pinned (OpenSpec.ofChange fnLoadTreeAcceptsExactlyAndPeaksGivesThemBackWrong)

/-- 'zzlaws_internal_checkpoint_b1.FnHeadJoinsFirstPeakToHeadOfRest': WHATEVER THE INPUT: true; the input reads as it did. -/
def fnHeadJoinsFirstPeakToHeadOfRestSpec : ChangeSpec := { name := "fnHeadJoinsFirstPeakToHeadOfRest", fn := fun _ => fun
  | [d1, d2] => { results := [.lit (.bool true)], args := [d1, d2] }
  | _ => none }
def fnHeadJoinsFirstPeakToHeadOfRestRow : OpenClaim := { program := "qxb6613845afmt", sum := "a5f490d656a51d81bae9688a7373bf4279797731eea5de7f0d4b1331233ff01d", func := "example.com/ledgerline/ledgerline/zzlaws_internal_checkpoint_b1.FnHeadJoinsFirstPeakToHeadOfRest", spec := "fnHeadJoinsFirstPeakToHeadOfRest", stops := ["fmt.errorf"], inPlace := ["fmt.errorf"], unfollowed := true, recurses := true, apart := false }
/-- NO THEOREM (fmt's text is open here; it may be false): for the released tool's asking of the row's closed facts alone. THE STATEMENT IS 'FnHeadJoinsFirstPeakToHeadOfRestToldSaid' (Qxb6613845aFmtCards.lean). -/
def FnHeadJoinsFirstPeakToHeadOfRestFormAsk : Prop := fnHeadJoinsFirstPeakToHeadOfRestRow.holds Tryf.pinned (OpenSpec.ofChange fnHeadJoinsFirstPeakToHeadOfRestSpec)

/-- ITS FALSE NEIGHBOUR: 'it returns false'. Refute it at one input. -/
def fnHeadJoinsFirstPeakToHeadOfRestWrong : ChangeSpec := { name := "fnHeadJoinsFirstPeakToHeadOfRest", fn := fun _ => fun
  | [d1, d2] => { results := [.lit (.bool false)], args := [d1, d2] }
  | _ => none }
def FnHeadJoinsFirstPeakToHeadOfRestWrongFormAsk : Prop := fnHeadJoinsFirstPeakToHeadOfRestRow.holds Tryf.pinned (OpenSpec.ofChange fnHeadJoinsFirstPeakToHeadOfRestWrong)

end Rows
end Go.Proofs.Qxb6613845aFmt
