/-
  No cell of these rows narrows 'for every input' (looked for: loops, veiled, ifaces, maps, wideKeys, modest, calm, conditions, laid).
  DERIVED. THE GIVEN ROWS OF THIS SEAT. 6 by the template 'for every input the law returns true; each argument reads behind the call as it read before'; 0 by the template 'total and deterministic' (their statements: Qxb6613072aTotals.lean).
  GIVEN WITH THE SEED: the statements are not yours to turn. If you find one false, say at which input.
  Laid BY PROGRAM, IN A SANDBOX (cutbox-rows.mjs): the forced cells as the released guide's own fill.sh prints them over the translation 6b4b61d23ac999f9… (all of the seat's roots in one cut). By AI agents, Wed Nov 11 2026. No macro, syntax, notation, axiom, sorry.
-/
import Derived.Test.Qxb6613072aChecked
import GoSem.Claim
import GoSem.ClaimJoined
import GoSem.ClaimMapViews
import Derived.JoinedTies
import Derived.KernelRfl
namespace Go.Proofs.Qxb6613072a
/- THE CELL 'sum', in the pinned program and in every row, IS THE sha256 OF THE DUMP (.gsa) THAT Qxb6613072aProg.lean LOADS. Nothing in Lean hashes anything: it is a label: what it is worth is what the hold of that sum in a sandbox is worth. -/
noncomputable def Try.pinned : Pinned := { name := "qxb6613072a", sum := "6b4b61d23ac999f9134f880273224501cadfefeb21b43c1045f9e183a65cfc92", checked := Try.checked }
namespace Rows
def none {H : Type} : Left H := { results := [], args := [] }

/-- 'zzlaws_root_b1.FnTypeOfNumberStepsWithTheField': WHATEVER THE INPUT: true; the input reads as it did. -/
def fnTypeOfNumberStepsWithTheFieldSpec : ChangeSpec := { name := "fnTypeOfNumberStepsWithTheField", fn := fun _ => fun
  | [d1, d2] => { results := [.lit (.bool true)], args := [d1, d2] }
  | _ => none }
def fnTypeOfNumberStepsWithTheFieldRow : OpenClaim := { program := "qxb6613072a", sum := "6b4b61d23ac999f9134f880273224501cadfefeb21b43c1045f9e183a65cfc92", func := "example.com/septwise/septwise/zzlaws_root_b1.FnTypeOfNumberStepsWithTheField", spec := "fnTypeOfNumberStepsWithTheField", plainKeys := false, apart := false }
def FnTypeOfNumberStepsWithTheFieldSaid : Prop := fnTypeOfNumberStepsWithTheFieldRow.holds Try.pinned (OpenSpec.ofChange fnTypeOfNumberStepsWithTheFieldSpec)

/-- ITS FALSE NEIGHBOUR: 'it returns false'. Refute it at one input. -/
def fnTypeOfNumberStepsWithTheFieldWrong : ChangeSpec := { name := "fnTypeOfNumberStepsWithTheField", fn := fun _ => fun
  | [d1, d2] => { results := [.lit (.bool false)], args := [d1, d2] }
  | _ => none }
def FnTypeOfNumberStepsWithTheFieldWrongFalsely : Prop := fnTypeOfNumberStepsWithTheFieldRow.holds Try.pinned (OpenSpec.ofChange fnTypeOfNumberStepsWithTheFieldWrong)

/-- 'zzlaws_root_b1.FnTypeOfNumberAgreesExactlyOnBits6To4': WHATEVER THE INPUT: true; the input reads as it did. -/
def fnTypeOfNumberAgreesExactlyOnBits6To4Spec : ChangeSpec := { name := "fnTypeOfNumberAgreesExactlyOnBits6To4", fn := fun _ => fun
  | [d1, d2, d3, d4] => { results := [.lit (.bool true)], args := [d1, d2, d3, d4] }
  | _ => none }
def fnTypeOfNumberAgreesExactlyOnBits6To4Row : OpenClaim := { program := "qxb6613072a", sum := "6b4b61d23ac999f9134f880273224501cadfefeb21b43c1045f9e183a65cfc92", func := "example.com/septwise/septwise/zzlaws_root_b1.FnTypeOfNumberAgreesExactlyOnBits6To4", spec := "fnTypeOfNumberAgreesExactlyOnBits6To4", plainKeys := false, apart := false }
def FnTypeOfNumberAgreesExactlyOnBits6To4Said : Prop := fnTypeOfNumberAgreesExactlyOnBits6To4Row.holds Try.pinned (OpenSpec.ofChange fnTypeOfNumberAgreesExactlyOnBits6To4Spec)

/-- ITS FALSE NEIGHBOUR: 'it returns false'. Refute it at one input. -/
def fnTypeOfNumberAgreesExactlyOnBits6To4Wrong : ChangeSpec := { name := "fnTypeOfNumberAgreesExactlyOnBits6To4", fn := fun _ => fun
  | [d1, d2, d3, d4] => { results := [.lit (.bool false)], args := [d1, d2, d3, d4] }
  | _ => none }
def FnTypeOfNumberAgreesExactlyOnBits6To4WrongFalsely : Prop := fnTypeOfNumberAgreesExactlyOnBits6To4Row.holds Try.pinned (OpenSpec.ofChange fnTypeOfNumberAgreesExactlyOnBits6To4Wrong)

/-- 'zzlaws_root_b1.FnExpireLetsGoOfExactlyThoseBefore': WHATEVER THE INPUT: true; the input reads as it did. -/
def fnExpireLetsGoOfExactlyThoseBeforeSpec : ChangeSpec := { name := "fnExpireLetsGoOfExactlyThoseBefore", fn := fun _ => fun
  | [d1, d2] => { results := [.lit (.bool true)], args := [d1, d2] }
  | _ => none }
def fnExpireLetsGoOfExactlyThoseBeforeRow : OpenClaim := { program := "qxb6613072a", sum := "6b4b61d23ac999f9134f880273224501cadfefeb21b43c1045f9e183a65cfc92", func := "example.com/septwise/septwise/zzlaws_root_b1.FnExpireLetsGoOfExactlyThoseBefore", spec := "fnExpireLetsGoOfExactlyThoseBefore", inPlace := ["internal/reflectlite.ValueOf", "internal/reflectlite.Swapper", "(internal/reflectlite.Value).Len"], unfollowed := true, recurses := true, plainKeys := false, apart := false }
def FnExpireLetsGoOfExactlyThoseBeforeSaid : Prop := fnExpireLetsGoOfExactlyThoseBeforeRow.holds Try.pinned (OpenSpec.ofChange fnExpireLetsGoOfExactlyThoseBeforeSpec)

/-- ITS FALSE NEIGHBOUR: 'it returns false'. Refute it at one input. -/
def fnExpireLetsGoOfExactlyThoseBeforeWrong : ChangeSpec := { name := "fnExpireLetsGoOfExactlyThoseBefore", fn := fun _ => fun
  | [d1, d2] => { results := [.lit (.bool false)], args := [d1, d2] }
  | _ => none }
def FnExpireLetsGoOfExactlyThoseBeforeWrongFalsely : Prop := fnExpireLetsGoOfExactlyThoseBeforeRow.holds Try.pinned (OpenSpec.ofChange fnExpireLetsGoOfExactlyThoseBeforeWrong)

/-- 'zzlaws_root_b1.FnExpireInTwoStepsIsExpireOnce': WHATEVER THE INPUT: true; the input reads as it did. -/
def fnExpireInTwoStepsIsExpireOnceSpec : ChangeSpec := { name := "fnExpireInTwoStepsIsExpireOnce", fn := fun _ => fun
  | [d1, d2, d3] => { results := [.lit (.bool true)], args := [d1, d2, d3] }
  | _ => none }
def fnExpireInTwoStepsIsExpireOnceRow : OpenClaim := { program := "qxb6613072a", sum := "6b4b61d23ac999f9134f880273224501cadfefeb21b43c1045f9e183a65cfc92", func := "example.com/septwise/septwise/zzlaws_root_b1.FnExpireInTwoStepsIsExpireOnce", spec := "fnExpireInTwoStepsIsExpireOnce", inPlace := ["internal/reflectlite.ValueOf", "internal/reflectlite.Swapper", "(internal/reflectlite.Value).Len"], unfollowed := true, recurses := true, plainKeys := false, apart := false }
def FnExpireInTwoStepsIsExpireOnceSaid : Prop := fnExpireInTwoStepsIsExpireOnceRow.holds Try.pinned (OpenSpec.ofChange fnExpireInTwoStepsIsExpireOnceSpec)

/-- ITS FALSE NEIGHBOUR: 'it returns false'. Refute it at one input. -/
def fnExpireInTwoStepsIsExpireOnceWrong : ChangeSpec := { name := "fnExpireInTwoStepsIsExpireOnce", fn := fun _ => fun
  | [d1, d2, d3] => { results := [.lit (.bool false)], args := [d1, d2, d3] }
  | _ => none }
def FnExpireInTwoStepsIsExpireOnceWrongFalsely : Prop := fnExpireInTwoStepsIsExpireOnceRow.holds Try.pinned (OpenSpec.ofChange fnExpireInTwoStepsIsExpireOnceWrong)

/-- 'zzlaws_root_b1.FnIncompleteListsEveryHeldMessageInBegunOrder': WHATEVER THE INPUT: true; the input reads as it did. -/
def fnIncompleteListsEveryHeldMessageInBegunOrderSpec : ChangeSpec := { name := "fnIncompleteListsEveryHeldMessageInBegunOrder", fn := fun _ => fun
  | [d] => { results := [.lit (.bool true)], args := [d] }
  | _ => none }
def fnIncompleteListsEveryHeldMessageInBegunOrderRow : OpenClaim := { program := "qxb6613072a", sum := "6b4b61d23ac999f9134f880273224501cadfefeb21b43c1045f9e183a65cfc92", func := "example.com/septwise/septwise/zzlaws_root_b1.FnIncompleteListsEveryHeldMessageInBegunOrder", spec := "fnIncompleteListsEveryHeldMessageInBegunOrder", inPlace := ["internal/reflectlite.ValueOf", "internal/reflectlite.Swapper", "(internal/reflectlite.Value).Len"], unfollowed := true, recurses := true, plainKeys := false, apart := false }
def FnIncompleteListsEveryHeldMessageInBegunOrderSaid : Prop := fnIncompleteListsEveryHeldMessageInBegunOrderRow.holds Try.pinned (OpenSpec.ofChange fnIncompleteListsEveryHeldMessageInBegunOrderSpec)

/-- ITS FALSE NEIGHBOUR: 'it returns false'. Refute it at one input. -/
def fnIncompleteListsEveryHeldMessageInBegunOrderWrong : ChangeSpec := { name := "fnIncompleteListsEveryHeldMessageInBegunOrder", fn := fun _ => fun
  | [d] => { results := [.lit (.bool false)], args := [d] }
  | _ => none }
def FnIncompleteListsEveryHeldMessageInBegunOrderWrongFalsely : Prop := fnIncompleteListsEveryHeldMessageInBegunOrderRow.holds Try.pinned (OpenSpec.ofChange fnIncompleteListsEveryHeldMessageInBegunOrderWrong)

/-- 'zzlaws_root_b1.FnIncompleteAfterExpireHoldsExactlyTheRest': WHATEVER THE INPUT: true; the input reads as it did. -/
def fnIncompleteAfterExpireHoldsExactlyTheRestSpec : ChangeSpec := { name := "fnIncompleteAfterExpireHoldsExactlyTheRest", fn := fun _ => fun
  | [d1, d2] => { results := [.lit (.bool true)], args := [d1, d2] }
  | _ => none }
def fnIncompleteAfterExpireHoldsExactlyTheRestRow : OpenClaim := { program := "qxb6613072a", sum := "6b4b61d23ac999f9134f880273224501cadfefeb21b43c1045f9e183a65cfc92", func := "example.com/septwise/septwise/zzlaws_root_b1.FnIncompleteAfterExpireHoldsExactlyTheRest", spec := "fnIncompleteAfterExpireHoldsExactlyTheRest", inPlace := ["internal/reflectlite.ValueOf", "internal/reflectlite.Swapper", "(internal/reflectlite.Value).Len"], unfollowed := true, recurses := true, plainKeys := false, apart := false }
def FnIncompleteAfterExpireHoldsExactlyTheRestSaid : Prop := fnIncompleteAfterExpireHoldsExactlyTheRestRow.holds Try.pinned (OpenSpec.ofChange fnIncompleteAfterExpireHoldsExactlyTheRestSpec)

/-- ITS FALSE NEIGHBOUR: 'it returns false'. Refute it at one input. -/
def fnIncompleteAfterExpireHoldsExactlyTheRestWrong : ChangeSpec := { name := "fnIncompleteAfterExpireHoldsExactlyTheRest", fn := fun _ => fun
  | [d1, d2] => { results := [.lit (.bool false)], args := [d1, d2] }
  | _ => none }
def FnIncompleteAfterExpireHoldsExactlyTheRestWrongFalsely : Prop := fnIncompleteAfterExpireHoldsExactlyTheRestRow.holds Try.pinned (OpenSpec.ofChange fnIncompleteAfterExpireHoldsExactlyTheRestWrong)

end Rows
end Go.Proofs.Qxb6613072a
