/-
  No cell of these rows narrows 'for every input' (looked for: loops, veiled, ifaces, maps, wideKeys, modest, calm, conditions, laid).
  DERIVED. THE GIVEN ROWS OF THIS SEAT. 6 by the template 'for every input the law returns true; each argument reads behind the call as it read before'; 0 by the template 'total and deterministic' (their statements: Qxb6613110aTotals.lean).
  GIVEN WITH THE SEED: the statements are not yours to turn. If you find one false, say at which input.
  Laid BY PROGRAM, IN A SANDBOX (cutbox-rows.mjs): the forced cells as the released guide's own fill.sh prints them over the translation bc583226100b881a… (all of the seat's roots in one cut). By AI agents, Wed Nov 11 2026. No macro, syntax, notation, axiom, sorry.
-/
import Derived.Test.Qxb6613110aChecked
import GoSem.Claim
import GoSem.ClaimJoined
import GoSem.ClaimMapViews
import Derived.JoinedTies
import Derived.KernelRfl
namespace Go.Proofs.Qxb6613110a
/- THE CELL 'sum', in the pinned program and in every row, IS THE sha256 OF THE DUMP (.gsa) THAT Qxb6613110aProg.lean LOADS. Nothing in Lean hashes anything: it is a label: what it is worth is what the hold of that sum in a sandbox is worth. -/
noncomputable def Try.pinned : Pinned := { name := "qxb6613110a", sum := "bc583226100b881ad4dba5be16eb4b1961a870150021e5f14352daf8047473b3", checked := Try.checked }
namespace Rows
def none {H : Type} : Left H := { results := [], args := [] }

/-- 'zzlaws_root_b1.FnLeastIsFirstLeastOfCounted': WHATEVER THE INPUT: true; the input reads as it did. -/
def fnLeastIsFirstLeastOfCountedSpec : ChangeSpec := { name := "fnLeastIsFirstLeastOfCounted", fn := fun _ => fun
  | [d1, d2] => { results := [.lit (.bool true)], args := [d1, d2] }
  | _ => none }
def fnLeastIsFirstLeastOfCountedRow : OpenClaim := { program := "qxb6613110a", sum := "bc583226100b881ad4dba5be16eb4b1961a870150021e5f14352daf8047473b3", func := "example.com/rumorline/rumorline/zzlaws_root_b1.FnLeastIsFirstLeastOfCounted", spec := "fnLeastIsFirstLeastOfCounted", unfollowed := true, recurses := true, plainKeys := false, apart := false }
def FnLeastIsFirstLeastOfCountedSaid : Prop := fnLeastIsFirstLeastOfCountedRow.holds Try.pinned (OpenSpec.ofChange fnLeastIsFirstLeastOfCountedSpec)

/-- ITS FALSE NEIGHBOUR: 'it returns false'. Refute it at one input. -/
def fnLeastIsFirstLeastOfCountedWrong : ChangeSpec := { name := "fnLeastIsFirstLeastOfCounted", fn := fun _ => fun
  | [d1, d2] => { results := [.lit (.bool false)], args := [d1, d2] }
  | _ => none }
def FnLeastIsFirstLeastOfCountedWrongFalsely : Prop := fnLeastIsFirstLeastOfCountedRow.holds Try.pinned (OpenSpec.ofChange fnLeastIsFirstLeastOfCountedWrong)

/-- 'zzlaws_root_b1.FnLeastSplitsAtAnyCut': WHATEVER THE INPUT: true; the input reads as it did. -/
def fnLeastSplitsAtAnyCutSpec : ChangeSpec := { name := "fnLeastSplitsAtAnyCut", fn := fun _ => fun
  | [d1, d2, d3] => { results := [.lit (.bool true)], args := [d1, d2, d3] }
  | _ => none }
def fnLeastSplitsAtAnyCutRow : OpenClaim := { program := "qxb6613110a", sum := "bc583226100b881ad4dba5be16eb4b1961a870150021e5f14352daf8047473b3", func := "example.com/rumorline/rumorline/zzlaws_root_b1.FnLeastSplitsAtAnyCut", spec := "fnLeastSplitsAtAnyCut", unfollowed := true, recurses := true, plainKeys := false, apart := false }
def FnLeastSplitsAtAnyCutSaid : Prop := fnLeastSplitsAtAnyCutRow.holds Try.pinned (OpenSpec.ofChange fnLeastSplitsAtAnyCutSpec)

/-- ITS FALSE NEIGHBOUR: 'it returns false'. Refute it at one input. -/
def fnLeastSplitsAtAnyCutWrong : ChangeSpec := { name := "fnLeastSplitsAtAnyCut", fn := fun _ => fun
  | [d1, d2, d3] => { results := [.lit (.bool false)], args := [d1, d2, d3] }
  | _ => none }
def FnLeastSplitsAtAnyCutWrongFalsely : Prop := fnLeastSplitsAtAnyCutRow.holds Try.pinned (OpenSpec.ofChange fnLeastSplitsAtAnyCutWrong)

/-- 'zzlaws_root_b1.FnAcknowledgeSetsOwnEntryOnceForAll': WHATEVER THE INPUT: true; the input reads as it did. -/
def fnAcknowledgeSetsOwnEntryOnceForAllSpec : ChangeSpec := { name := "fnAcknowledgeSetsOwnEntryOnceForAll", fn := fun _ => fun
  | [d1, d2, d3, d4] => { results := [.lit (.bool true)], args := [d1, d2, d3, d4] }
  | _ => none }
def fnAcknowledgeSetsOwnEntryOnceForAllRow : OpenClaim := { program := "qxb6613110a", sum := "bc583226100b881ad4dba5be16eb4b1961a870150021e5f14352daf8047473b3", func := "example.com/rumorline/rumorline/zzlaws_root_b1.FnAcknowledgeSetsOwnEntryOnceForAll", spec := "fnAcknowledgeSetsOwnEntryOnceForAll", unfollowed := true, recurses := true, plainKeys := false, apart := false }
def FnAcknowledgeSetsOwnEntryOnceForAllSaid : Prop := fnAcknowledgeSetsOwnEntryOnceForAllRow.holds Try.pinned (OpenSpec.ofChange fnAcknowledgeSetsOwnEntryOnceForAllSpec)

/-- ITS FALSE NEIGHBOUR: 'it returns false'. Refute it at one input. -/
def fnAcknowledgeSetsOwnEntryOnceForAllWrong : ChangeSpec := { name := "fnAcknowledgeSetsOwnEntryOnceForAll", fn := fun _ => fun
  | [d1, d2, d3, d4] => { results := [.lit (.bool false)], args := [d1, d2, d3, d4] }
  | _ => none }
def FnAcknowledgeSetsOwnEntryOnceForAllWrongFalsely : Prop := fnAcknowledgeSetsOwnEntryOnceForAllRow.holds Try.pinned (OpenSpec.ofChange fnAcknowledgeSetsOwnEntryOnceForAllWrong)

/-- 'zzlaws_root_b1.FnAcknowledgeSplitsOverTheView': WHATEVER THE INPUT: true; the input reads as it did. -/
def fnAcknowledgeSplitsOverTheViewSpec : ChangeSpec := { name := "fnAcknowledgeSplitsOverTheView", fn := fun _ => fun
  | [d1, d2, d3, d4, d5] => { results := [.lit (.bool true)], args := [d1, d2, d3, d4, d5] }
  | _ => none }
def fnAcknowledgeSplitsOverTheViewRow : OpenClaim := { program := "qxb6613110a", sum := "bc583226100b881ad4dba5be16eb4b1961a870150021e5f14352daf8047473b3", func := "example.com/rumorline/rumorline/zzlaws_root_b1.FnAcknowledgeSplitsOverTheView", spec := "fnAcknowledgeSplitsOverTheView", unfollowed := true, recurses := true, plainKeys := false, apart := false }
def FnAcknowledgeSplitsOverTheViewSaid : Prop := fnAcknowledgeSplitsOverTheViewRow.holds Try.pinned (OpenSpec.ofChange fnAcknowledgeSplitsOverTheViewSpec)

/-- ITS FALSE NEIGHBOUR: 'it returns false'. Refute it at one input. -/
def fnAcknowledgeSplitsOverTheViewWrong : ChangeSpec := { name := "fnAcknowledgeSplitsOverTheView", fn := fun _ => fun
  | [d1, d2, d3, d4, d5] => { results := [.lit (.bool false)], args := [d1, d2, d3, d4, d5] }
  | _ => none }
def FnAcknowledgeSplitsOverTheViewWrongFalsely : Prop := fnAcknowledgeSplitsOverTheViewRow.holds Try.pinned (OpenSpec.ofChange fnAcknowledgeSplitsOverTheViewWrong)

/-- 'zzlaws_root_b1.FnWalkGetReadsEveryClock': WHATEVER THE INPUT: true; the input reads as it did. -/
def fnWalkGetReadsEveryClockSpec : ChangeSpec := { name := "fnWalkGetReadsEveryClock", fn := fun _ => fun
  | [d1, d2] => { results := [.lit (.bool true)], args := [d1, d2] }
  | _ => none }
def fnWalkGetReadsEveryClockRow : OpenClaim := { program := "qxb6613110a", sum := "bc583226100b881ad4dba5be16eb4b1961a870150021e5f14352daf8047473b3", func := "example.com/rumorline/rumorline/zzlaws_root_b1.FnWalkGetReadsEveryClock", spec := "fnWalkGetReadsEveryClock", unfollowed := true, recurses := true, plainKeys := false, apart := false }
def FnWalkGetReadsEveryClockSaid : Prop := fnWalkGetReadsEveryClockRow.holds Try.pinned (OpenSpec.ofChange fnWalkGetReadsEveryClockSpec)

/-- ITS FALSE NEIGHBOUR: 'it returns false'. Refute it at one input. -/
def fnWalkGetReadsEveryClockWrong : ChangeSpec := { name := "fnWalkGetReadsEveryClock", fn := fun _ => fun
  | [d1, d2] => { results := [.lit (.bool false)], args := [d1, d2] }
  | _ => none }
def FnWalkGetReadsEveryClockWrongFalsely : Prop := fnWalkGetReadsEveryClockRow.holds Try.pinned (OpenSpec.ofChange fnWalkGetReadsEveryClockWrong)

/-- 'zzlaws_root_b1.FnWalkGetSeesOneEntryPutIn': WHATEVER THE INPUT: true; the input reads as it did. -/
def fnWalkGetSeesOneEntryPutInSpec : ChangeSpec := { name := "fnWalkGetSeesOneEntryPutIn", fn := fun _ => fun
  | [d1, d2, d3] => { results := [.lit (.bool true)], args := [d1, d2, d3] }
  | _ => none }
def fnWalkGetSeesOneEntryPutInRow : OpenClaim := { program := "qxb6613110a", sum := "bc583226100b881ad4dba5be16eb4b1961a870150021e5f14352daf8047473b3", func := "example.com/rumorline/rumorline/zzlaws_root_b1.FnWalkGetSeesOneEntryPutIn", spec := "fnWalkGetSeesOneEntryPutIn", unfollowed := true, recurses := true, plainKeys := false, apart := false }
def FnWalkGetSeesOneEntryPutInSaid : Prop := fnWalkGetSeesOneEntryPutInRow.holds Try.pinned (OpenSpec.ofChange fnWalkGetSeesOneEntryPutInSpec)

/-- ITS FALSE NEIGHBOUR: 'it returns false'. Refute it at one input. -/
def fnWalkGetSeesOneEntryPutInWrong : ChangeSpec := { name := "fnWalkGetSeesOneEntryPutIn", fn := fun _ => fun
  | [d1, d2, d3] => { results := [.lit (.bool false)], args := [d1, d2, d3] }
  | _ => none }
def FnWalkGetSeesOneEntryPutInWrongFalsely : Prop := fnWalkGetSeesOneEntryPutInRow.holds Try.pinned (OpenSpec.ofChange fnWalkGetSeesOneEntryPutInWrong)

end Rows
end Go.Proofs.Qxb6613110a
