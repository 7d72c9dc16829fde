/-
  No cell of these rows narrows 'for every input' (looked for: loops, veiled, ifaces, maps, wideKeys, modest, calm, conditions, laid).
  DERIVED. THE GIVEN ROWS OF THIS SEAT. 6 by the template 'for every input the law returns true; each argument reads behind the call as it read before'; 0 by the template 'total and deterministic' (their statements: Qxb6000206aTotals.lean).
  GIVEN WITH THE SEED: the statements are not yours to turn. If you find one false, say at which input.
  Laid BY PROGRAM, IN A SANDBOX (cutbox-rows.mjs): the forced cells as the released guide's own fill.sh prints them over the translation 11042b61e534490e… (all of the seat's roots in one cut). By AI agents, Wed Nov 11 2026. No macro, syntax, notation, axiom, sorry.
-/
import Derived.Test.Qxb6000206aChecked
import GoSem.Claim
import GoSem.ClaimJoined
import GoSem.ClaimMapViews
import Derived.JoinedTies
import Derived.KernelRfl
namespace Go.Proofs.Qxb6000206a
/- THE CELL 'sum', in the pinned program and in every row, IS THE sha256 OF THE DUMP (.gsa) THAT Qxb6000206aProg.lean LOADS. Nothing in Lean hashes anything: it is a label: what it is worth is what the hold of that sum in a sandbox is worth. -/
noncomputable def Try.pinned : Pinned := { name := "qxb6000206a", sum := "11042b61e534490e78ff9c129e2b30d71ae147f9895a44b10635e9e881f2d6ca", checked := Try.checked }
namespace Rows
def none {H : Type} : Left H := { results := [], args := [] }

/-- 'zzlaws_local_b1.FnAcceptAgreesWithNext': WHATEVER THE INPUT: true; the input reads as it did. -/
def fnAcceptAgreesWithNextSpec : ChangeSpec := { name := "fnAcceptAgreesWithNext", fn := fun _ => fun
  | [d1, d2, d3] => { results := [.lit (.bool true)], args := [d1, d2, d3] }
  | _ => none }
def fnAcceptAgreesWithNextRow : OpenClaim := { program := "qxb6000206a", sum := "11042b61e534490e78ff9c129e2b30d71ae147f9895a44b10635e9e881f2d6ca", func := "example.com/shardkeeper/shardkeeper/zzlaws_local_b1.FnAcceptAgreesWithNext", spec := "fnAcceptAgreesWithNext", apart := false }
def FnAcceptAgreesWithNextSaid : Prop := fnAcceptAgreesWithNextRow.holds Try.pinned (OpenSpec.ofChange fnAcceptAgreesWithNextSpec)

/-- ITS FALSE NEIGHBOUR: 'it returns false'. Refute it at one input. -/
def fnAcceptAgreesWithNextWrong : ChangeSpec := { name := "fnAcceptAgreesWithNext", fn := fun _ => fun
  | [d1, d2, d3] => { results := [.lit (.bool false)], args := [d1, d2, d3] }
  | _ => none }
def FnAcceptAgreesWithNextWrongFalsely : Prop := fnAcceptAgreesWithNextRow.holds Try.pinned (OpenSpec.ofChange fnAcceptAgreesWithNextWrong)

/-- 'zzlaws_local_b1.FnAcceptNeverPassesEOF': WHATEVER THE INPUT: true; the input reads as it did. -/
def fnAcceptNeverPassesEOFSpec : ChangeSpec := { name := "fnAcceptNeverPassesEOF", fn := fun _ => fun
  | [d1, d2] => { results := [.lit (.bool true)], args := [d1, d2] }
  | _ => none }
def fnAcceptNeverPassesEOFRow : OpenClaim := { program := "qxb6000206a", sum := "11042b61e534490e78ff9c129e2b30d71ae147f9895a44b10635e9e881f2d6ca", func := "example.com/shardkeeper/shardkeeper/zzlaws_local_b1.FnAcceptNeverPassesEOF", spec := "fnAcceptNeverPassesEOF", apart := false }
def FnAcceptNeverPassesEOFSaid : Prop := fnAcceptNeverPassesEOFRow.holds Try.pinned (OpenSpec.ofChange fnAcceptNeverPassesEOFSpec)

/-- ITS FALSE NEIGHBOUR: 'it returns false'. Refute it at one input. -/
def fnAcceptNeverPassesEOFWrong : ChangeSpec := { name := "fnAcceptNeverPassesEOF", fn := fun _ => fun
  | [d1, d2] => { results := [.lit (.bool false)], args := [d1, d2] }
  | _ => none }
def FnAcceptNeverPassesEOFWrongFalsely : Prop := fnAcceptNeverPassesEOFRow.holds Try.pinned (OpenSpec.ofChange fnAcceptNeverPassesEOFWrong)

/-- 'zzlaws_local_b1.FnAcceptOwnKindsReachEOF': WHATEVER THE INPUT: true; the input reads as it did. -/
def fnAcceptOwnKindsReachEOFSpec : ChangeSpec := { name := "fnAcceptOwnKindsReachEOF", fn := fun _ => fun
  | [d1, d2] => { results := [.lit (.bool true)], args := [d1, d2] }
  | _ => none }
def fnAcceptOwnKindsReachEOFRow : OpenClaim := { program := "qxb6000206a", sum := "11042b61e534490e78ff9c129e2b30d71ae147f9895a44b10635e9e881f2d6ca", func := "example.com/shardkeeper/shardkeeper/zzlaws_local_b1.FnAcceptOwnKindsReachEOF", spec := "fnAcceptOwnKindsReachEOF", apart := false }
def FnAcceptOwnKindsReachEOFSaid : Prop := fnAcceptOwnKindsReachEOFRow.holds Try.pinned (OpenSpec.ofChange fnAcceptOwnKindsReachEOFSpec)

/-- ITS FALSE NEIGHBOUR: 'it returns false'. Refute it at one input. -/
def fnAcceptOwnKindsReachEOFWrong : ChangeSpec := { name := "fnAcceptOwnKindsReachEOF", fn := fun _ => fun
  | [d1, d2] => { results := [.lit (.bool false)], args := [d1, d2] }
  | _ => none }
def FnAcceptOwnKindsReachEOFWrongFalsely : Prop := fnAcceptOwnKindsReachEOFRow.holds Try.pinned (OpenSpec.ofChange fnAcceptOwnKindsReachEOFWrong)

/-- 'zzlaws_local_b1.FnMadeUpIsSaturatingRefill': WHATEVER THE INPUT: true; the input reads as it did. -/
def fnMadeUpIsSaturatingRefillSpec : ChangeSpec := { name := "fnMadeUpIsSaturatingRefill", fn := fun _ => fun
  | [d1, d2, d3] => { results := [.lit (.bool true)], args := [d1, d2, d3] }
  | _ => none }
def fnMadeUpIsSaturatingRefillRow : OpenClaim := { program := "qxb6000206a", sum := "11042b61e534490e78ff9c129e2b30d71ae147f9895a44b10635e9e881f2d6ca", func := "example.com/shardkeeper/shardkeeper/zzlaws_local_b1.FnMadeUpIsSaturatingRefill", spec := "fnMadeUpIsSaturatingRefill", apart := false }
def FnMadeUpIsSaturatingRefillSaid : Prop := fnMadeUpIsSaturatingRefillRow.holds Try.pinned (OpenSpec.ofChange fnMadeUpIsSaturatingRefillSpec)

/-- ITS FALSE NEIGHBOUR: 'it returns false'. Refute it at one input. -/
def fnMadeUpIsSaturatingRefillWrong : ChangeSpec := { name := "fnMadeUpIsSaturatingRefill", fn := fun _ => fun
  | [d1, d2, d3] => { results := [.lit (.bool false)], args := [d1, d2, d3] }
  | _ => none }
def FnMadeUpIsSaturatingRefillWrongFalsely : Prop := fnMadeUpIsSaturatingRefillRow.holds Try.pinned (OpenSpec.ofChange fnMadeUpIsSaturatingRefillWrong)

/-- 'zzlaws_local_b1.FnMadeUpBoundedAndMonotone': WHATEVER THE INPUT: true; the input reads as it did. -/
def fnMadeUpBoundedAndMonotoneSpec : ChangeSpec := { name := "fnMadeUpBoundedAndMonotone", fn := fun _ => fun
  | [d1, d2, d3, d4, d5] => { results := [.lit (.bool true)], args := [d1, d2, d3, d4, d5] }
  | _ => none }
def fnMadeUpBoundedAndMonotoneRow : OpenClaim := { program := "qxb6000206a", sum := "11042b61e534490e78ff9c129e2b30d71ae147f9895a44b10635e9e881f2d6ca", func := "example.com/shardkeeper/shardkeeper/zzlaws_local_b1.FnMadeUpBoundedAndMonotone", spec := "fnMadeUpBoundedAndMonotone", apart := false }
def FnMadeUpBoundedAndMonotoneSaid : Prop := fnMadeUpBoundedAndMonotoneRow.holds Try.pinned (OpenSpec.ofChange fnMadeUpBoundedAndMonotoneSpec)

/-- ITS FALSE NEIGHBOUR: 'it returns false'. Refute it at one input. -/
def fnMadeUpBoundedAndMonotoneWrong : ChangeSpec := { name := "fnMadeUpBoundedAndMonotone", fn := fun _ => fun
  | [d1, d2, d3, d4, d5] => { results := [.lit (.bool false)], args := [d1, d2, d3, d4, d5] }
  | _ => none }
def FnMadeUpBoundedAndMonotoneWrongFalsely : Prop := fnMadeUpBoundedAndMonotoneRow.holds Try.pinned (OpenSpec.ofChange fnMadeUpBoundedAndMonotoneWrong)

/-- 'zzlaws_local_b1.FnMadeUpComposes': WHATEVER THE INPUT: true; the input reads as it did. -/
def fnMadeUpComposesSpec : ChangeSpec := { name := "fnMadeUpComposes", fn := fun _ => fun
  | [d1, d2, d3, d4] => { results := [.lit (.bool true)], args := [d1, d2, d3, d4] }
  | _ => none }
def fnMadeUpComposesRow : OpenClaim := { program := "qxb6000206a", sum := "11042b61e534490e78ff9c129e2b30d71ae147f9895a44b10635e9e881f2d6ca", func := "example.com/shardkeeper/shardkeeper/zzlaws_local_b1.FnMadeUpComposes", spec := "fnMadeUpComposes", apart := false }
def FnMadeUpComposesSaid : Prop := fnMadeUpComposesRow.holds Try.pinned (OpenSpec.ofChange fnMadeUpComposesSpec)

/-- ITS FALSE NEIGHBOUR: 'it returns false'. Refute it at one input. -/
def fnMadeUpComposesWrong : ChangeSpec := { name := "fnMadeUpComposes", fn := fun _ => fun
  | [d1, d2, d3, d4] => { results := [.lit (.bool false)], args := [d1, d2, d3, d4] }
  | _ => none }
def FnMadeUpComposesWrongFalsely : Prop := fnMadeUpComposesRow.holds Try.pinned (OpenSpec.ofChange fnMadeUpComposesWrong)

end Rows
end Go.Proofs.Qxb6000206a
