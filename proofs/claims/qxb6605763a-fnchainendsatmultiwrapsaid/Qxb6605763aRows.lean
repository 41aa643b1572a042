/-
  No cell of these rows narrows 'for every input' (looked for: loops, veiled, ifaces, maps, wideKeys, modest, calm, conditions, laid).
  DERIVED. THE GIVEN ROWS OF THIS SEAT. 4 by the template 'for every input the law returns true; each argument reads behind the call as it read before'; 0 by the template 'total and deterministic' (their statements: Qxb6605763aTotals.lean).
  GIVEN WITH THE SEED: the statements are not yours to turn. If you find one false, say at which input.
  Laid BY PROGRAM, IN A SANDBOX (cutbox-rows.mjs): the forced cells as the released guide's own fill.sh prints them over the translation a50d853ec2c82fbf… (all of the seat's roots in one cut). By AI agents, Wed Nov 11 2026. No macro, syntax, notation, axiom, sorry.
-/
import Derived.Test.Qxb6605763aChecked
import GoSem.Claim
import GoSem.ClaimJoined
import GoSem.ClaimMapViews
import Derived.JoinedTies
import Derived.KernelRfl
namespace Go.Proofs.Qxb6605763a
/- THE CELL 'sum', in the pinned program and in every row, IS THE sha256 OF THE DUMP (.gsa) THAT Qxb6605763aProg.lean LOADS. Nothing in Lean hashes anything: it is a label: what it is worth is what the hold of that sum in a sandbox is worth. -/
noncomputable def Try.pinned : Pinned := { name := "qxb6605763a", sum := "a50d853ec2c82fbf2bb792bd382c5f16b485b0acaac24dc87fafe564c69a7273", checked := Try.checked }
namespace Rows
def none {H : Type} : Left H := { results := [], args := [] }

/-- 'zzlaws_root_b1.FnLowerASCIIExact': WHATEVER THE INPUT: true; the input reads as it did. -/
def fnLowerASCIIExactSpec : ChangeSpec := { name := "fnLowerASCIIExact", fn := fun _ => fun
  | [d] => { results := [.lit (.bool true)], args := [d] }
  | _ => none }
def fnLowerASCIIExactRow : OpenClaim := { program := "qxb6605763a", sum := "a50d853ec2c82fbf2bb792bd382c5f16b485b0acaac24dc87fafe564c69a7273", func := "example.com/steadfetch/steadfetch/zzlaws_root_b1.FnLowerASCIIExact", spec := "fnLowerASCIIExact", unfollowed := true, recurses := true, apart := false }
def FnLowerASCIIExactSaid : Prop := fnLowerASCIIExactRow.holds Try.pinned (OpenSpec.ofChange fnLowerASCIIExactSpec)

/-- ITS FALSE NEIGHBOUR: 'it returns false'. Refute it at one input. -/
def fnLowerASCIIExactWrong : ChangeSpec := { name := "fnLowerASCIIExact", fn := fun _ => fun
  | [d] => { results := [.lit (.bool false)], args := [d] }
  | _ => none }
def FnLowerASCIIExactWrongFalsely : Prop := fnLowerASCIIExactRow.holds Try.pinned (OpenSpec.ofChange fnLowerASCIIExactWrong)

/-- 'zzlaws_root_b1.FnLowerASCIICaseBlind': WHATEVER THE INPUT: true; the input reads as it did. -/
def fnLowerASCIICaseBlindSpec : ChangeSpec := { name := "fnLowerASCIICaseBlind", fn := fun _ => fun
  | [d] => { results := [.lit (.bool true)], args := [d] }
  | _ => none }
def fnLowerASCIICaseBlindRow : OpenClaim := { program := "qxb6605763a", sum := "a50d853ec2c82fbf2bb792bd382c5f16b485b0acaac24dc87fafe564c69a7273", func := "example.com/steadfetch/steadfetch/zzlaws_root_b1.FnLowerASCIICaseBlind", spec := "fnLowerASCIICaseBlind", unfollowed := true, recurses := true, apart := false }
def FnLowerASCIICaseBlindSaid : Prop := fnLowerASCIICaseBlindRow.holds Try.pinned (OpenSpec.ofChange fnLowerASCIICaseBlindSpec)

/-- ITS FALSE NEIGHBOUR: 'it returns false'. Refute it at one input. -/
def fnLowerASCIICaseBlindWrong : ChangeSpec := { name := "fnLowerASCIICaseBlind", fn := fun _ => fun
  | [d] => { results := [.lit (.bool false)], args := [d] }
  | _ => none }
def FnLowerASCIICaseBlindWrongFalsely : Prop := fnLowerASCIICaseBlindRow.holds Try.pinned (OpenSpec.ofChange fnLowerASCIICaseBlindWrong)

/-- 'zzlaws_root_b1.FnChainYieldsEachUnwrap': WHATEVER THE INPUT: true; the input reads as it did. -/
def fnChainYieldsEachUnwrapSpec : ChangeSpec := { name := "fnChainYieldsEachUnwrap", fn := fun _ => fun
  | [d1, d2, d3] => { results := [.lit (.bool true)], args := [d1, d2, d3] }
  | _ => none }
def fnChainYieldsEachUnwrapRow : OpenClaim := { program := "qxb6605763a", sum := "a50d853ec2c82fbf2bb792bd382c5f16b485b0acaac24dc87fafe564c69a7273", func := "example.com/steadfetch/steadfetch/zzlaws_root_b1.FnChainYieldsEachUnwrap", spec := "fnChainYieldsEachUnwrap", unfollowed := true, recurses := true, apart := false }
def FnChainYieldsEachUnwrapSaid : Prop := fnChainYieldsEachUnwrapRow.holds Try.pinned (OpenSpec.ofChange fnChainYieldsEachUnwrapSpec)

/-- ITS FALSE NEIGHBOUR: 'it returns false'. Refute it at one input. -/
def fnChainYieldsEachUnwrapWrong : ChangeSpec := { name := "fnChainYieldsEachUnwrap", fn := fun _ => fun
  | [d1, d2, d3] => { results := [.lit (.bool false)], args := [d1, d2, d3] }
  | _ => none }
def FnChainYieldsEachUnwrapWrongFalsely : Prop := fnChainYieldsEachUnwrapRow.holds Try.pinned (OpenSpec.ofChange fnChainYieldsEachUnwrapWrong)

/-- 'zzlaws_root_b1.FnChainEndsAtMultiWrap': WHATEVER THE INPUT: true; the input reads as it did. -/
def fnChainEndsAtMultiWrapSpec : ChangeSpec := { name := "fnChainEndsAtMultiWrap", fn := fun _ => fun
  | [d1, d2, d3, d4] => { results := [.lit (.bool true)], args := [d1, d2, d3, d4] }
  | _ => none }
def fnChainEndsAtMultiWrapRow : OpenClaim := { program := "qxb6605763a", sum := "a50d853ec2c82fbf2bb792bd382c5f16b485b0acaac24dc87fafe564c69a7273", func := "example.com/steadfetch/steadfetch/zzlaws_root_b1.FnChainEndsAtMultiWrap", spec := "fnChainEndsAtMultiWrap", unfollowed := true, recurses := true, apart := false }
def FnChainEndsAtMultiWrapSaid : Prop := fnChainEndsAtMultiWrapRow.holds Try.pinned (OpenSpec.ofChange fnChainEndsAtMultiWrapSpec)

/-- ITS FALSE NEIGHBOUR: 'it returns false'. Refute it at one input. -/
def fnChainEndsAtMultiWrapWrong : ChangeSpec := { name := "fnChainEndsAtMultiWrap", fn := fun _ => fun
  | [d1, d2, d3, d4] => { results := [.lit (.bool false)], args := [d1, d2, d3, d4] }
  | _ => none }
def FnChainEndsAtMultiWrapWrongFalsely : Prop := fnChainEndsAtMultiWrapRow.holds Try.pinned (OpenSpec.ofChange fnChainEndsAtMultiWrapWrong)

end Rows
end Go.Proofs.Qxb6605763a
