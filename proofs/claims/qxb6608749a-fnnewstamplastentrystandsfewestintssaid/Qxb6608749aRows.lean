/-
  No cell of these rows narrows 'for every input' (looked for: loops, veiled, ifaces, maps, wideKeys, modest, calm, conditions, laid).
  DERIVED. THE GIVEN ROWS OF THIS SEAT. 4 by the template 'for every input the law returns true; each argument reads behind the call as it read before'; 0 by the template 'total and deterministic' (their statements: Qxb6608749aTotals.lean).
  GIVEN WITH THE SEED: the statements are not yours to turn. If you find one false, say at which input.
  Laid BY PROGRAM, IN A SANDBOX (cutbox-rows.mjs): the forced cells as the released guide's own fill.sh prints them over the translation fc9497ebeff99d9b… (all of the seat's roots in one cut). By AI agents, Wed Nov 11 2026. No macro, syntax, notation, axiom, sorry.
-/
import Derived.Test.Qxb6608749aChecked
import GoSem.Claim
import GoSem.ClaimJoined
import GoSem.ClaimMapViews
import Derived.JoinedTies
import Derived.KernelRfl
namespace Go.Proofs.Qxb6608749a
/- THE CELL 'sum', in the pinned program and in every row, IS THE sha256 OF THE DUMP (.gsa) THAT Qxb6608749aProg.lean LOADS. Nothing in Lean hashes anything: it is a label: what it is worth is what the hold of that sum in a sandbox is worth. -/
noncomputable def Try.pinned : Pinned := { name := "qxb6608749a", sum := "fc9497ebeff99d9bd76c31c01cf5a274da7363e3f800586c39e5b09bbd053401", checked := Try.checked }
namespace Rows
def none {H : Type} : Left H := { results := [], args := [] }

/-- 'zzlaws_trace_b1.FnNewStampLastEntryStandsFewestInts': WHATEVER THE INPUT: true; the input reads as it did. -/
def fnNewStampLastEntryStandsFewestIntsSpec : ChangeSpec := { name := "fnNewStampLastEntryStandsFewestInts", fn := fun _ => fun
  | [d1, d2] => { results := [.lit (.bool true)], args := [d1, d2] }
  | _ => none }
def fnNewStampLastEntryStandsFewestIntsRow : OpenClaim := { program := "qxb6608749a", sum := "fc9497ebeff99d9bd76c31c01cf5a274da7363e3f800586c39e5b09bbd053401", func := "example.com/causet/causet/zzlaws_trace_b1.FnNewStampLastEntryStandsFewestInts", spec := "fnNewStampLastEntryStandsFewestInts", unfollowed := true, recurses := true, apart := false }
def FnNewStampLastEntryStandsFewestIntsSaid : Prop := fnNewStampLastEntryStandsFewestIntsRow.holds Try.pinned (OpenSpec.ofChange fnNewStampLastEntryStandsFewestIntsSpec)

/-- ITS FALSE NEIGHBOUR: 'it returns false'. Refute it at one input. -/
def fnNewStampLastEntryStandsFewestIntsWrong : ChangeSpec := { name := "fnNewStampLastEntryStandsFewestInts", fn := fun _ => fun
  | [d1, d2] => { results := [.lit (.bool false)], args := [d1, d2] }
  | _ => none }
def FnNewStampLastEntryStandsFewestIntsWrongFalsely : Prop := fnNewStampLastEntryStandsFewestIntsRow.holds Try.pinned (OpenSpec.ofChange fnNewStampLastEntryStandsFewestIntsWrong)

/-- 'zzlaws_trace_b1.FnNewStampJoinAtAnyCut': WHATEVER THE INPUT: true; the input reads as it did. -/
def fnNewStampJoinAtAnyCutSpec : ChangeSpec := { name := "fnNewStampJoinAtAnyCut", fn := fun _ => fun
  | [d1, d2, d3] => { results := [.lit (.bool true)], args := [d1, d2, d3] }
  | _ => none }
def fnNewStampJoinAtAnyCutRow : OpenClaim := { program := "qxb6608749a", sum := "fc9497ebeff99d9bd76c31c01cf5a274da7363e3f800586c39e5b09bbd053401", func := "example.com/causet/causet/zzlaws_trace_b1.FnNewStampJoinAtAnyCut", spec := "fnNewStampJoinAtAnyCut", unfollowed := true, recurses := true, apart := false }
def FnNewStampJoinAtAnyCutSaid : Prop := fnNewStampJoinAtAnyCutRow.holds Try.pinned (OpenSpec.ofChange fnNewStampJoinAtAnyCutSpec)

/-- ITS FALSE NEIGHBOUR: 'it returns false'. Refute it at one input. -/
def fnNewStampJoinAtAnyCutWrong : ChangeSpec := { name := "fnNewStampJoinAtAnyCut", fn := fun _ => fun
  | [d1, d2, d3] => { results := [.lit (.bool false)], args := [d1, d2, d3] }
  | _ => none }
def FnNewStampJoinAtAnyCutWrongFalsely : Prop := fnNewStampJoinAtAnyCutRow.holds Try.pinned (OpenSpec.ofChange fnNewStampJoinAtAnyCutWrong)

/-- 'zzlaws_trace_b1.FnStampedKIsLastCountOfItsProcess': WHATEVER THE INPUT: true; the input reads as it did. -/
def fnStampedKIsLastCountOfItsProcessSpec : ChangeSpec := { name := "fnStampedKIsLastCountOfItsProcess", fn := fun _ => fun
  | [d1, d2, d3, d4, d5, d6, d7, d8, d9] => { results := [.lit (.bool true)], args := [d1, d2, d3, d4, d5, d6, d7, d8, d9] }
  | _ => none }
def fnStampedKIsLastCountOfItsProcessRow : OpenClaim := { program := "qxb6608749a", sum := "fc9497ebeff99d9bd76c31c01cf5a274da7363e3f800586c39e5b09bbd053401", func := "example.com/causet/causet/zzlaws_trace_b1.FnStampedKIsLastCountOfItsProcess", spec := "fnStampedKIsLastCountOfItsProcess", unfollowed := true, recurses := true, apart := false }
def FnStampedKIsLastCountOfItsProcessSaid : Prop := fnStampedKIsLastCountOfItsProcessRow.holds Try.pinned (OpenSpec.ofChange fnStampedKIsLastCountOfItsProcessSpec)

/-- ITS FALSE NEIGHBOUR: 'it returns false'. Refute it at one input. -/
def fnStampedKIsLastCountOfItsProcessWrong : ChangeSpec := { name := "fnStampedKIsLastCountOfItsProcess", fn := fun _ => fun
  | [d1, d2, d3, d4, d5, d6, d7, d8, d9] => { results := [.lit (.bool false)], args := [d1, d2, d3, d4, d5, d6, d7, d8, d9] }
  | _ => none }
def FnStampedKIsLastCountOfItsProcessWrongFalsely : Prop := fnStampedKIsLastCountOfItsProcessRow.holds Try.pinned (OpenSpec.ofChange fnStampedKIsLastCountOfItsProcessWrong)

/-- 'zzlaws_trace_b1.FnStampedKOneEntryPutIn': WHATEVER THE INPUT: true; the input reads as it did. -/
def fnStampedKOneEntryPutInSpec : ChangeSpec := { name := "fnStampedKOneEntryPutIn", fn := fun _ => fun
  | [d1, d2, d3, d4, d5] => { results := [.lit (.bool true)], args := [d1, d2, d3, d4, d5] }
  | _ => none }
def fnStampedKOneEntryPutInRow : OpenClaim := { program := "qxb6608749a", sum := "fc9497ebeff99d9bd76c31c01cf5a274da7363e3f800586c39e5b09bbd053401", func := "example.com/causet/causet/zzlaws_trace_b1.FnStampedKOneEntryPutIn", spec := "fnStampedKOneEntryPutIn", unfollowed := true, recurses := true, apart := false }
def FnStampedKOneEntryPutInSaid : Prop := fnStampedKOneEntryPutInRow.holds Try.pinned (OpenSpec.ofChange fnStampedKOneEntryPutInSpec)

/-- ITS FALSE NEIGHBOUR: 'it returns false'. Refute it at one input. -/
def fnStampedKOneEntryPutInWrong : ChangeSpec := { name := "fnStampedKOneEntryPutIn", fn := fun _ => fun
  | [d1, d2, d3, d4, d5] => { results := [.lit (.bool false)], args := [d1, d2, d3, d4, d5] }
  | _ => none }
def FnStampedKOneEntryPutInWrongFalsely : Prop := fnStampedKOneEntryPutInRow.holds Try.pinned (OpenSpec.ofChange fnStampedKOneEntryPutInWrong)

end Rows
end Go.Proofs.Qxb6608749a
