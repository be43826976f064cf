/-
  No cell of these rows narrows 'for every input' (looked for: loops, veiled, ifaces, maps, wideKeys, modest, calm, conditions, laid).
  DERIVED. THE GIVEN ROWS OF THIS SEAT. 7 by the template 'for every input the law returns true; each argument reads behind the call as it read before'; 0 by the template 'total and deterministic' (their statements: Qxb6609411aTotals.lean).
  GIVEN WITH THE SEED: the statements are not yours to turn. If you find one false, say at which input.
  Laid BY PROGRAM, IN A SANDBOX (cutbox-rows.mjs): the forced cells as the released guide's own fill.sh prints them over the translation b62a7d528559608a… (all of the seat's roots in one cut). By AI agents, Wed Nov 11 2026. No macro, syntax, notation, axiom, sorry.
-/
import Derived.Test.Qxb6609411aChecked
import GoSem.Claim
import GoSem.ClaimJoined
import GoSem.ClaimMapViews
import Derived.JoinedTies
import Derived.KernelRfl
namespace Go.Proofs.Qxb6609411a
/- THE CELL 'sum', in the pinned program and in every row, IS THE sha256 OF THE DUMP (.gsa) THAT Qxb6609411aProg.lean LOADS. Nothing in Lean hashes anything: it is a label: what it is worth is what the hold of that sum in a sandbox is worth. -/
noncomputable def Try.pinned : Pinned := { name := "qxb6609411a", sum := "b62a7d528559608a9d6842a4a70dd6778af6ff6735f3a725da27ee11d1281e80", checked := Try.checked }
namespace Rows
def none {H : Type} : Left H := { results := [], args := [] }

/-- 'zzlaws_root_b1.FnIsHexDigitMatchesDigitList': WHATEVER THE INPUT: true; the input reads as it did. -/
def fnIsHexDigitMatchesDigitListSpec : ChangeSpec := { name := "fnIsHexDigitMatchesDigitList", fn := fun _ => fun
  | [d] => { results := [.lit (.bool true)], args := [d] }
  | _ => none }
def fnIsHexDigitMatchesDigitListRow : OpenClaim := { program := "qxb6609411a", sum := "b62a7d528559608a9d6842a4a70dd6778af6ff6735f3a725da27ee11d1281e80", func := "example.com/badged/badged/zzlaws_root_b1.FnIsHexDigitMatchesDigitList", spec := "fnIsHexDigitMatchesDigitList", plainKeys := false, apart := false }
def FnIsHexDigitMatchesDigitListSaid : Prop := fnIsHexDigitMatchesDigitListRow.holds Try.pinned (OpenSpec.ofChange fnIsHexDigitMatchesDigitListSpec)

/-- ITS FALSE NEIGHBOUR: 'it returns false'. Refute it at one input. -/
def fnIsHexDigitMatchesDigitListWrong : ChangeSpec := { name := "fnIsHexDigitMatchesDigitList", fn := fun _ => fun
  | [d] => { results := [.lit (.bool false)], args := [d] }
  | _ => none }
def FnIsHexDigitMatchesDigitListWrongFalsely : Prop := fnIsHexDigitMatchesDigitListRow.holds Try.pinned (OpenSpec.ofChange fnIsHexDigitMatchesDigitListWrong)

/-- 'zzlaws_root_b1.FnIsHexDigitRankClosedForm': WHATEVER THE INPUT: true; the input reads as it did. -/
def fnIsHexDigitRankClosedFormSpec : ChangeSpec := { name := "fnIsHexDigitRankClosedForm", fn := fun _ => fun
  | [d] => { results := [.lit (.bool true)], args := [d] }
  | _ => none }
def fnIsHexDigitRankClosedFormRow : OpenClaim := { program := "qxb6609411a", sum := "b62a7d528559608a9d6842a4a70dd6778af6ff6735f3a725da27ee11d1281e80", func := "example.com/badged/badged/zzlaws_root_b1.FnIsHexDigitRankClosedForm", spec := "fnIsHexDigitRankClosedForm", plainKeys := false, apart := false }
def FnIsHexDigitRankClosedFormSaid : Prop := fnIsHexDigitRankClosedFormRow.holds Try.pinned (OpenSpec.ofChange fnIsHexDigitRankClosedFormSpec)

/-- ITS FALSE NEIGHBOUR: 'it returns false'. Refute it at one input. -/
def fnIsHexDigitRankClosedFormWrong : ChangeSpec := { name := "fnIsHexDigitRankClosedForm", fn := fun _ => fun
  | [d] => { results := [.lit (.bool false)], args := [d] }
  | _ => none }
def FnIsHexDigitRankClosedFormWrongFalsely : Prop := fnIsHexDigitRankClosedFormRow.holds Try.pinned (OpenSpec.ofChange fnIsHexDigitRankClosedFormWrong)

/-- 'zzlaws_root_b1.FnSeniorsOfUpwardReachExact': WHATEVER THE INPUT: true; the input reads as it did. -/
def fnSeniorsOfUpwardReachExactSpec : ChangeSpec := { name := "fnSeniorsOfUpwardReachExact", fn := fun _ => fun
  | [d1, d2, d3, d4] => { results := [.lit (.bool true)], args := [d1, d2, d3, d4] }
  | _ => none }
def fnSeniorsOfUpwardReachExactRow : OpenClaim := { program := "qxb6609411a", sum := "b62a7d528559608a9d6842a4a70dd6778af6ff6735f3a725da27ee11d1281e80", func := "example.com/badged/badged/zzlaws_root_b1.FnSeniorsOfUpwardReachExact", spec := "fnSeniorsOfUpwardReachExact", unfollowed := true, recurses := true, plainKeys := false, apart := false }
def FnSeniorsOfUpwardReachExactSaid : Prop := fnSeniorsOfUpwardReachExactRow.holds Try.pinned (OpenSpec.ofChange fnSeniorsOfUpwardReachExactSpec)

/-- ITS FALSE NEIGHBOUR: 'it returns false'. Refute it at one input. -/
def fnSeniorsOfUpwardReachExactWrong : ChangeSpec := { name := "fnSeniorsOfUpwardReachExact", fn := fun _ => fun
  | [d1, d2, d3, d4] => { results := [.lit (.bool false)], args := [d1, d2, d3, d4] }
  | _ => none }
def FnSeniorsOfUpwardReachExactWrongFalsely : Prop := fnSeniorsOfUpwardReachExactRow.holds Try.pinned (OpenSpec.ofChange fnSeniorsOfUpwardReachExactWrong)

/-- 'zzlaws_root_b1.FnSeniorsOfUpDownDuality': WHATEVER THE INPUT: true; the input reads as it did. -/
def fnSeniorsOfUpDownDualitySpec : ChangeSpec := { name := "fnSeniorsOfUpDownDuality", fn := fun _ => fun
  | [d1, d2, d3, d4, d5] => { results := [.lit (.bool true)], args := [d1, d2, d3, d4, d5] }
  | _ => none }
def fnSeniorsOfUpDownDualityRow : OpenClaim := { program := "qxb6609411a", sum := "b62a7d528559608a9d6842a4a70dd6778af6ff6735f3a725da27ee11d1281e80", func := "example.com/badged/badged/zzlaws_root_b1.FnSeniorsOfUpDownDuality", spec := "fnSeniorsOfUpDownDuality", unfollowed := true, recurses := true, plainKeys := false, apart := false }
def FnSeniorsOfUpDownDualitySaid : Prop := fnSeniorsOfUpDownDualityRow.holds Try.pinned (OpenSpec.ofChange fnSeniorsOfUpDownDualitySpec)

/-- ITS FALSE NEIGHBOUR: 'it returns false'. Refute it at one input. -/
def fnSeniorsOfUpDownDualityWrong : ChangeSpec := { name := "fnSeniorsOfUpDownDuality", fn := fun _ => fun
  | [d1, d2, d3, d4, d5] => { results := [.lit (.bool false)], args := [d1, d2, d3, d4, d5] }
  | _ => none }
def FnSeniorsOfUpDownDualityWrongFalsely : Prop := fnSeniorsOfUpDownDualityRow.holds Try.pinned (OpenSpec.ofChange fnSeniorsOfUpDownDualityWrong)

/-- 'zzlaws_root_b1.FnHoldsExactOverHierarchy': WHATEVER THE INPUT: true; the input reads as it did. -/
def fnHoldsExactOverHierarchySpec : ChangeSpec := { name := "fnHoldsExactOverHierarchy", fn := fun _ => fun
  | [d1, d2, d3, d4, d5, d6, d7, d8, d9] => { results := [.lit (.bool true)], args := [d1, d2, d3, d4, d5, d6, d7, d8, d9] }
  | _ => none }
def fnHoldsExactOverHierarchyRow : OpenClaim := { program := "qxb6609411a", sum := "b62a7d528559608a9d6842a4a70dd6778af6ff6735f3a725da27ee11d1281e80", func := "example.com/badged/badged/zzlaws_root_b1.FnHoldsExactOverHierarchy", spec := "fnHoldsExactOverHierarchy", unfollowed := true, recurses := true, plainKeys := false, apart := false }
def FnHoldsExactOverHierarchySaid : Prop := fnHoldsExactOverHierarchyRow.holds Try.pinned (OpenSpec.ofChange fnHoldsExactOverHierarchySpec)

/-- ITS FALSE NEIGHBOUR: 'it returns false'. Refute it at one input. -/
def fnHoldsExactOverHierarchyWrong : ChangeSpec := { name := "fnHoldsExactOverHierarchy", fn := fun _ => fun
  | [d1, d2, d3, d4, d5, d6, d7, d8, d9] => { results := [.lit (.bool false)], args := [d1, d2, d3, d4, d5, d6, d7, d8, d9] }
  | _ => none }
def FnHoldsExactOverHierarchyWrongFalsely : Prop := fnHoldsExactOverHierarchyRow.holds Try.pinned (OpenSpec.ofChange fnHoldsExactOverHierarchyWrong)

/-- 'zzlaws_root_b1.FnHoldsAgreesWithHeldPermissionsOfReached': WHATEVER THE INPUT: true; the input reads as it did. -/
def fnHoldsAgreesWithHeldPermissionsOfReachedSpec : ChangeSpec := { name := "fnHoldsAgreesWithHeldPermissionsOfReached", fn := fun _ => fun
  | [d1, d2, d3, d4, d5, d6, d7, d8, d9] => { results := [.lit (.bool true)], args := [d1, d2, d3, d4, d5, d6, d7, d8, d9] }
  | _ => none }
def fnHoldsAgreesWithHeldPermissionsOfReachedRow : OpenClaim := { program := "qxb6609411a", sum := "b62a7d528559608a9d6842a4a70dd6778af6ff6735f3a725da27ee11d1281e80", func := "example.com/badged/badged/zzlaws_root_b1.FnHoldsAgreesWithHeldPermissionsOfReached", spec := "fnHoldsAgreesWithHeldPermissionsOfReached", unfollowed := true, recurses := true, plainKeys := false, apart := false }
def FnHoldsAgreesWithHeldPermissionsOfReachedSaid : Prop := fnHoldsAgreesWithHeldPermissionsOfReachedRow.holds Try.pinned (OpenSpec.ofChange fnHoldsAgreesWithHeldPermissionsOfReachedSpec)

/-- ITS FALSE NEIGHBOUR: 'it returns false'. Refute it at one input. -/
def fnHoldsAgreesWithHeldPermissionsOfReachedWrong : ChangeSpec := { name := "fnHoldsAgreesWithHeldPermissionsOfReached", fn := fun _ => fun
  | [d1, d2, d3, d4, d5, d6, d7, d8, d9] => { results := [.lit (.bool false)], args := [d1, d2, d3, d4, d5, d6, d7, d8, d9] }
  | _ => none }
def FnHoldsAgreesWithHeldPermissionsOfReachedWrongFalsely : Prop := fnHoldsAgreesWithHeldPermissionsOfReachedRow.holds Try.pinned (OpenSpec.ofChange fnHoldsAgreesWithHeldPermissionsOfReachedWrong)

/-- 'zzlaws_root_b1.FnHeldPermissionsIsUnionOfGrants': WHATEVER THE INPUT: true; the input reads as it did. -/
def fnHeldPermissionsIsUnionOfGrantsSpec : ChangeSpec := { name := "fnHeldPermissionsIsUnionOfGrants", fn := fun _ => fun
  | [d1, d2, d3, d4] => { results := [.lit (.bool true)], args := [d1, d2, d3, d4] }
  | _ => none }
def fnHeldPermissionsIsUnionOfGrantsRow : OpenClaim := { program := "qxb6609411a", sum := "b62a7d528559608a9d6842a4a70dd6778af6ff6735f3a725da27ee11d1281e80", func := "example.com/badged/badged/zzlaws_root_b1.FnHeldPermissionsIsUnionOfGrants", spec := "fnHeldPermissionsIsUnionOfGrants", unfollowed := true, recurses := true, plainKeys := false, apart := false }
def FnHeldPermissionsIsUnionOfGrantsSaid : Prop := fnHeldPermissionsIsUnionOfGrantsRow.holds Try.pinned (OpenSpec.ofChange fnHeldPermissionsIsUnionOfGrantsSpec)

/-- ITS FALSE NEIGHBOUR: 'it returns false'. Refute it at one input. -/
def fnHeldPermissionsIsUnionOfGrantsWrong : ChangeSpec := { name := "fnHeldPermissionsIsUnionOfGrants", fn := fun _ => fun
  | [d1, d2, d3, d4] => { results := [.lit (.bool false)], args := [d1, d2, d3, d4] }
  | _ => none }
def FnHeldPermissionsIsUnionOfGrantsWrongFalsely : Prop := fnHeldPermissionsIsUnionOfGrantsRow.holds Try.pinned (OpenSpec.ofChange fnHeldPermissionsIsUnionOfGrantsWrong)

end Rows
end Go.Proofs.Qxb6609411a
