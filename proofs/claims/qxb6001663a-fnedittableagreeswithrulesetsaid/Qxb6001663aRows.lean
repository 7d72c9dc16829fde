/-
  No cell of these rows narrows 'for every input' (looked for: loops, veiled, ifaces, maps, wideKeys, modest, calm, conditions, laid).
  DERIVED. THE GIVEN ROWS OF THIS SEAT. 8 by the template 'for every input the law returns true; each argument reads behind the call as it read before'; 0 by the template 'total and deterministic' (their statements: Qxb6001663aTotals.lean).
  GIVEN WITH THE SEED: the statements are not yours to turn. If you find one false, say at which input.
  Laid BY PROGRAM, IN A SANDBOX (cutbox-rows.mjs): the forced cells as the released guide's own fill.sh prints them over the translation 0eded0b7e50a41df… (all of the seat's roots in one cut). By AI agents, Wed Nov 11 2026. No macro, syntax, notation, axiom, sorry.
-/
import Derived.Test.Qxb6001663aChecked
import GoSem.Claim
import GoSem.ClaimJoined
import GoSem.ClaimMapViews
import Derived.JoinedTies
import Derived.KernelRfl
namespace Go.Proofs.Qxb6001663a
/- THE CELL 'sum', in the pinned program and in every row, IS THE sha256 OF THE DUMP (.gsa) THAT Qxb6001663aProg.lean LOADS. Nothing in Lean hashes anything: it is a label: what it is worth is what the hold of that sum in a sandbox is worth. -/
noncomputable def Try.pinned : Pinned := { name := "qxb6001663a", sum := "0eded0b7e50a41dfb9cc81fb626784f12c95b4a18ab9427c43635a4decbaba84", checked := Try.checked }
namespace Rows
def none {H : Type} : Left H := { results := [], args := [] }

/-- 'zzlaws_pkg_ruleset_g1.FnTextSizeAdditiveOrderFreeGrowing': WHATEVER THE INPUT: true; the input reads as it did. -/
def fnTextSizeAdditiveOrderFreeGrowingSpec : ChangeSpec := { name := "fnTextSizeAdditiveOrderFreeGrowing", fn := fun _ => fun
  | [d1, d2] => { results := [.lit (.bool true)], args := [d1, d2] }
  | _ => none }
def fnTextSizeAdditiveOrderFreeGrowingRow : OpenClaim := { program := "qxb6001663a", sum := "0eded0b7e50a41dfb9cc81fb626784f12c95b4a18ab9427c43635a4decbaba84", func := "example.com/chainwright/chainwright/zzlaws_pkg_ruleset_g1.FnTextSizeAdditiveOrderFreeGrowing", spec := "fnTextSizeAdditiveOrderFreeGrowing", apart := false }
def FnTextSizeAdditiveOrderFreeGrowingSaid : Prop := fnTextSizeAdditiveOrderFreeGrowingRow.holds Try.pinned (OpenSpec.ofChange fnTextSizeAdditiveOrderFreeGrowingSpec)

/-- ITS FALSE NEIGHBOUR: 'it returns false'. Refute it at one input. -/
def fnTextSizeAdditiveOrderFreeGrowingWrong : ChangeSpec := { name := "fnTextSizeAdditiveOrderFreeGrowing", fn := fun _ => fun
  | [d1, d2] => { results := [.lit (.bool false)], args := [d1, d2] }
  | _ => none }
def FnTextSizeAdditiveOrderFreeGrowingWrongFalsely : Prop := fnTextSizeAdditiveOrderFreeGrowingRow.holds Try.pinned (OpenSpec.ofChange fnTextSizeAdditiveOrderFreeGrowingWrong)

/-- 'zzlaws_pkg_ruleset_g1.FnTableChainAddsEachNameOnce': WHATEVER THE INPUT: true; the input reads as it did. -/
def fnTableChainAddsEachNameOnceSpec : ChangeSpec := { name := "fnTableChainAddsEachNameOnce", fn := fun _ => fun
  | [d1, d2] => { results := [.lit (.bool true)], args := [d1, d2] }
  | _ => none }
def fnTableChainAddsEachNameOnceRow : OpenClaim := { program := "qxb6001663a", sum := "0eded0b7e50a41dfb9cc81fb626784f12c95b4a18ab9427c43635a4decbaba84", func := "example.com/chainwright/chainwright/zzlaws_pkg_ruleset_g1.FnTableChainAddsEachNameOnce", spec := "fnTableChainAddsEachNameOnce", apart := false }
def FnTableChainAddsEachNameOnceSaid : Prop := fnTableChainAddsEachNameOnceRow.holds Try.pinned (OpenSpec.ofChange fnTableChainAddsEachNameOnceSpec)

/-- ITS FALSE NEIGHBOUR: 'it returns false'. Refute it at one input. -/
def fnTableChainAddsEachNameOnceWrong : ChangeSpec := { name := "fnTableChainAddsEachNameOnce", fn := fun _ => fun
  | [d1, d2] => { results := [.lit (.bool false)], args := [d1, d2] }
  | _ => none }
def FnTableChainAddsEachNameOnceWrongFalsely : Prop := fnTableChainAddsEachNameOnceRow.holds Try.pinned (OpenSpec.ofChange fnTableChainAddsEachNameOnceWrong)

/-- 'zzlaws_pkg_ruleset_g1.FnRulesetSetAddsEachNameOnce': WHATEVER THE INPUT: true; the input reads as it did. -/
def fnRulesetSetAddsEachNameOnceSpec : ChangeSpec := { name := "fnRulesetSetAddsEachNameOnce", fn := fun _ => fun
  | [d1, d2] => { results := [.lit (.bool true)], args := [d1, d2] }
  | _ => none }
def fnRulesetSetAddsEachNameOnceRow : OpenClaim := { program := "qxb6001663a", sum := "0eded0b7e50a41dfb9cc81fb626784f12c95b4a18ab9427c43635a4decbaba84", func := "example.com/chainwright/chainwright/zzlaws_pkg_ruleset_g1.FnRulesetSetAddsEachNameOnce", spec := "fnRulesetSetAddsEachNameOnce", apart := false }
def FnRulesetSetAddsEachNameOnceSaid : Prop := fnRulesetSetAddsEachNameOnceRow.holds Try.pinned (OpenSpec.ofChange fnRulesetSetAddsEachNameOnceSpec)

/-- ITS FALSE NEIGHBOUR: 'it returns false'. Refute it at one input. -/
def fnRulesetSetAddsEachNameOnceWrong : ChangeSpec := { name := "fnRulesetSetAddsEachNameOnce", fn := fun _ => fun
  | [d1, d2] => { results := [.lit (.bool false)], args := [d1, d2] }
  | _ => none }
def FnRulesetSetAddsEachNameOnceWrongFalsely : Prop := fnRulesetSetAddsEachNameOnceRow.holds Try.pinned (OpenSpec.ofChange fnRulesetSetAddsEachNameOnceWrong)

/-- 'zzlaws_pkg_ruleset_g1.FnNftElementStringParsesBack': WHATEVER THE INPUT: true; the input reads as it did. -/
def fnNftElementStringParsesBackSpec : ChangeSpec := { name := "fnNftElementStringParsesBack", fn := fun _ => fun
  | [d1, d2, d3] => { results := [.lit (.bool true)], args := [d1, d2, d3] }
  | _ => none }
def fnNftElementStringParsesBackRow : OpenClaim := { program := "qxb6001663a", sum := "0eded0b7e50a41dfb9cc81fb626784f12c95b4a18ab9427c43635a4decbaba84", func := "example.com/chainwright/chainwright/zzlaws_pkg_ruleset_g1.FnNftElementStringParsesBack", spec := "fnNftElementStringParsesBack", apart := false }
def FnNftElementStringParsesBackSaid : Prop := fnNftElementStringParsesBackRow.holds Try.pinned (OpenSpec.ofChange fnNftElementStringParsesBackSpec)

/-- ITS FALSE NEIGHBOUR: 'it returns false'. Refute it at one input. -/
def fnNftElementStringParsesBackWrong : ChangeSpec := { name := "fnNftElementStringParsesBack", fn := fun _ => fun
  | [d1, d2, d3] => { results := [.lit (.bool false)], args := [d1, d2, d3] }
  | _ => none }
def FnNftElementStringParsesBackWrongFalsely : Prop := fnNftElementStringParsesBackRow.holds Try.pinned (OpenSpec.ofChange fnNftElementStringParsesBackWrong)

/-- 'zzlaws_pkg_ruleset_g1.FnChangedSetNamesExactlyThoseSet': WHATEVER THE INPUT: true; the input reads as it did. -/
def fnChangedSetNamesExactlyThoseSetSpec : ChangeSpec := { name := "fnChangedSetNamesExactlyThoseSet", fn := fun _ => fun
  | [d1, d2, d3] => { results := [.lit (.bool true)], args := [d1, d2, d3] }
  | _ => none }
def fnChangedSetNamesExactlyThoseSetRow : OpenClaim := { program := "qxb6001663a", sum := "0eded0b7e50a41dfb9cc81fb626784f12c95b4a18ab9427c43635a4decbaba84", func := "example.com/chainwright/chainwright/zzlaws_pkg_ruleset_g1.FnChangedSetNamesExactlyThoseSet", spec := "fnChangedSetNamesExactlyThoseSet", apart := false }
def FnChangedSetNamesExactlyThoseSetSaid : Prop := fnChangedSetNamesExactlyThoseSetRow.holds Try.pinned (OpenSpec.ofChange fnChangedSetNamesExactlyThoseSetSpec)

/-- ITS FALSE NEIGHBOUR: 'it returns false'. Refute it at one input. -/
def fnChangedSetNamesExactlyThoseSetWrong : ChangeSpec := { name := "fnChangedSetNamesExactlyThoseSet", fn := fun _ => fun
  | [d1, d2, d3] => { results := [.lit (.bool false)], args := [d1, d2, d3] }
  | _ => none }
def FnChangedSetNamesExactlyThoseSetWrongFalsely : Prop := fnChangedSetNamesExactlyThoseSetRow.holds Try.pinned (OpenSpec.ofChange fnChangedSetNamesExactlyThoseSetWrong)

/-- 'zzlaws_pkg_ruleset_g2.FnNftTableSetChainFirstAppearance': WHATEVER THE INPUT: true; the input reads as it did. -/
def fnNftTableSetChainFirstAppearanceSpec : ChangeSpec := { name := "fnNftTableSetChainFirstAppearance", fn := fun _ => fun
  | [d1, d2] => { results := [.lit (.bool true)], args := [d1, d2] }
  | _ => none }
def fnNftTableSetChainFirstAppearanceRow : OpenClaim := { program := "qxb6001663a", sum := "0eded0b7e50a41dfb9cc81fb626784f12c95b4a18ab9427c43635a4decbaba84", func := "example.com/chainwright/chainwright/zzlaws_pkg_ruleset_g2.FnNftTableSetChainFirstAppearance", spec := "fnNftTableSetChainFirstAppearance", apart := false }
def FnNftTableSetChainFirstAppearanceSaid : Prop := fnNftTableSetChainFirstAppearanceRow.holds Try.pinned (OpenSpec.ofChange fnNftTableSetChainFirstAppearanceSpec)

/-- ITS FALSE NEIGHBOUR: 'it returns false'. Refute it at one input. -/
def fnNftTableSetChainFirstAppearanceWrong : ChangeSpec := { name := "fnNftTableSetChainFirstAppearance", fn := fun _ => fun
  | [d1, d2] => { results := [.lit (.bool false)], args := [d1, d2] }
  | _ => none }
def FnNftTableSetChainFirstAppearanceWrongFalsely : Prop := fnNftTableSetChainFirstAppearanceRow.holds Try.pinned (OpenSpec.ofChange fnNftTableSetChainFirstAppearanceWrong)

/-- 'zzlaws_pkg_ruleset_g2.FnRulesetTableLookup': WHATEVER THE INPUT: true; the input reads as it did. -/
def fnRulesetTableLookupSpec : ChangeSpec := { name := "fnRulesetTableLookup", fn := fun _ => fun
  | [d1, d2] => { results := [.lit (.bool true)], args := [d1, d2] }
  | _ => none }
def fnRulesetTableLookupRow : OpenClaim := { program := "qxb6001663a", sum := "0eded0b7e50a41dfb9cc81fb626784f12c95b4a18ab9427c43635a4decbaba84", func := "example.com/chainwright/chainwright/zzlaws_pkg_ruleset_g2.FnRulesetTableLookup", spec := "fnRulesetTableLookup", apart := false }
def FnRulesetTableLookupSaid : Prop := fnRulesetTableLookupRow.holds Try.pinned (OpenSpec.ofChange fnRulesetTableLookupSpec)

/-- ITS FALSE NEIGHBOUR: 'it returns false'. Refute it at one input. -/
def fnRulesetTableLookupWrong : ChangeSpec := { name := "fnRulesetTableLookup", fn := fun _ => fun
  | [d1, d2] => { results := [.lit (.bool false)], args := [d1, d2] }
  | _ => none }
def FnRulesetTableLookupWrongFalsely : Prop := fnRulesetTableLookupRow.holds Try.pinned (OpenSpec.ofChange fnRulesetTableLookupWrong)

/-- 'zzlaws_pkg_ruleset_g2.FnEditTableAgreesWithRuleset': WHATEVER THE INPUT: true; the input reads as it did. -/
def fnEditTableAgreesWithRulesetSpec : ChangeSpec := { name := "fnEditTableAgreesWithRuleset", fn := fun _ => fun
  | [d1, d2] => { results := [.lit (.bool true)], args := [d1, d2] }
  | _ => none }
def fnEditTableAgreesWithRulesetRow : OpenClaim := { program := "qxb6001663a", sum := "0eded0b7e50a41dfb9cc81fb626784f12c95b4a18ab9427c43635a4decbaba84", func := "example.com/chainwright/chainwright/zzlaws_pkg_ruleset_g2.FnEditTableAgreesWithRuleset", spec := "fnEditTableAgreesWithRuleset", apart := false }
def FnEditTableAgreesWithRulesetSaid : Prop := fnEditTableAgreesWithRulesetRow.holds Try.pinned (OpenSpec.ofChange fnEditTableAgreesWithRulesetSpec)

/-- ITS FALSE NEIGHBOUR: 'it returns false'. Refute it at one input. -/
def fnEditTableAgreesWithRulesetWrong : ChangeSpec := { name := "fnEditTableAgreesWithRuleset", fn := fun _ => fun
  | [d1, d2] => { results := [.lit (.bool false)], args := [d1, d2] }
  | _ => none }
def FnEditTableAgreesWithRulesetWrongFalsely : Prop := fnEditTableAgreesWithRulesetRow.holds Try.pinned (OpenSpec.ofChange fnEditTableAgreesWithRulesetWrong)

end Rows
end Go.Proofs.Qxb6001663a
