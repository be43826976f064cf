/-
  No cell of these rows narrows 'for every input' (looked for: loops, veiled, ifaces, maps, wideKeys, modest, calm, conditions, laid).
  DERIVED. THE GIVEN ROWS OF THIS SEAT. 1 by the template 'for every input the law returns true; each argument reads behind the call as it read before'; 0 by the template 'total and deterministic' (their statements: Qxb6613151aTotals.lean).
  GIVEN WITH THE SEED: the statements are not yours to turn. If you find one false, say at which input.
  Laid BY PROGRAM, IN A SANDBOX (cutbox-rows.mjs): the forced cells as the released guide's own fill.sh prints them over the translation 612169f313da1835… (all of the seat's roots in one cut). By AI agents, Wed Nov 11 2026. No macro, syntax, notation, axiom, sorry.
-/
import Derived.Test.Qxb6613151aChecked
import GoSem.Claim
import GoSem.ClaimJoined
import GoSem.ClaimMapViews
import Derived.JoinedTies
import Derived.KernelRfl
namespace Go.Proofs.Qxb6613151a
/- THE CELL 'sum', in the pinned program and in every row, IS THE sha256 OF THE DUMP (.gsa) THAT Qxb6613151aProg.lean LOADS. Nothing in Lean hashes anything: it is a label: what it is worth is what the hold of that sum in a sandbox is worth. -/
noncomputable def Try.pinned : Pinned := { name := "qxb6613151a", sum := "612169f313da1835f3259d702dbca373a7f28e9b66430acce34ceacda2830115", checked := Try.checked }
namespace Rows
def none {H : Type} : Left H := { results := [], args := [] }

/-- 'zzlaws_internal_solve_b1.FnGroupOrderDuplicateFollows': WHATEVER THE INPUT: true; the input reads as it did. -/
def fnGroupOrderDuplicateFollowsSpec : ChangeSpec := { name := "fnGroupOrderDuplicateFollows", fn := fun _ => fun
  | [d1, d2, d3, d4, d5, d6] => { results := [.lit (.bool true)], args := [d1, d2, d3, d4, d5, d6] }
  | _ => none }
def fnGroupOrderDuplicateFollowsRow : OpenClaim := { program := "qxb6613151a", sum := "612169f313da1835f3259d702dbca373a7f28e9b66430acce34ceacda2830115", func := "example.com/thriftfit/thriftfit/zzlaws_internal_solve_b1.FnGroupOrderDuplicateFollows", spec := "fnGroupOrderDuplicateFollows", unfollowed := true, recurses := true, apart := false }
def FnGroupOrderDuplicateFollowsSaid : Prop := fnGroupOrderDuplicateFollowsRow.holds Try.pinned (OpenSpec.ofChange fnGroupOrderDuplicateFollowsSpec)

/-- ITS FALSE NEIGHBOUR: 'it returns false'. Refute it at one input. -/
def fnGroupOrderDuplicateFollowsWrong : ChangeSpec := { name := "fnGroupOrderDuplicateFollows", fn := fun _ => fun
  | [d1, d2, d3, d4, d5, d6] => { results := [.lit (.bool false)], args := [d1, d2, d3, d4, d5, d6] }
  | _ => none }
def FnGroupOrderDuplicateFollowsWrongFalsely : Prop := fnGroupOrderDuplicateFollowsRow.holds Try.pinned (OpenSpec.ofChange fnGroupOrderDuplicateFollowsWrong)

end Rows
end Go.Proofs.Qxb6613151a
