/-
  No cell of these rows narrows 'for every input' (looked for: loops, veiled, ifaces, maps, wideKeys, modest, calm, conditions, laid).
  DERIVED. THE GIVEN ROWS OF THIS SEAT. 3 by the template 'for every input the law returns true; each argument reads behind the call as it read before'; 0 by the template 'total and deterministic' (their statements: Qxb6606341aTotals.lean).
  GIVEN WITH THE SEED: the statements are not yours to turn. If you find one false, say at which input.
  Laid BY PROGRAM, IN A SANDBOX (cutbox-rows.mjs): the forced cells as the released guide's own fill.sh prints them over the translation b5cabd1eb9ec6851… (all of the seat's roots in one cut). By AI agents, Wed Nov 11 2026. No macro, syntax, notation, axiom, sorry.
-/
import Derived.Test.Qxb6606341aChecked
import GoSem.Claim
import GoSem.ClaimJoined
import GoSem.ClaimMapViews
import Derived.JoinedTies
import Derived.KernelRfl
namespace Go.Proofs.Qxb6606341a
/- THE CELL 'sum', in the pinned program and in every row, IS THE sha256 OF THE DUMP (.gsa) THAT Qxb6606341aProg.lean LOADS. Nothing in Lean hashes anything: it is a label: what it is worth is what the hold of that sum in a sandbox is worth. -/
noncomputable def Try.pinned : Pinned := { name := "qxb6606341a", sum := "b5cabd1eb9ec6851dcfc750dda1f5aaac8c3a440993315a3dda963cb96c5ff94", checked := Try.checked }
namespace Rows
def none {H : Type} : Left H := { results := [], args := [] }

/-- 'zzlaws_root_b1.FnChangedLinesMatchesModel': WHATEVER THE INPUT: true; the input reads as it did. -/
def fnChangedLinesMatchesModelSpec : ChangeSpec := { name := "fnChangedLinesMatchesModel", fn := fun _ => fun
  | [d1, d2] => { results := [.lit (.bool true)], args := [d1, d2] }
  | _ => none }
def fnChangedLinesMatchesModelRow : OpenClaim := { program := "qxb6606341a", sum := "b5cabd1eb9ec6851dcfc750dda1f5aaac8c3a440993315a3dda963cb96c5ff94", func := "example.com/sway-over-roles/sway-over-roles/zzlaws_root_b1.FnChangedLinesMatchesModel", spec := "fnChangedLinesMatchesModel", apart := false }
def FnChangedLinesMatchesModelSaid : Prop := fnChangedLinesMatchesModelRow.holds Try.pinned (OpenSpec.ofChange fnChangedLinesMatchesModelSpec)

/-- ITS FALSE NEIGHBOUR: 'it returns false'. Refute it at one input. -/
def fnChangedLinesMatchesModelWrong : ChangeSpec := { name := "fnChangedLinesMatchesModel", fn := fun _ => fun
  | [d1, d2] => { results := [.lit (.bool false)], args := [d1, d2] }
  | _ => none }
def FnChangedLinesMatchesModelWrongFalsely : Prop := fnChangedLinesMatchesModelRow.holds Try.pinned (OpenSpec.ofChange fnChangedLinesMatchesModelWrong)

/-- 'zzlaws_root_b1.FnChangedLinesSplicesAtLineStarts': WHATEVER THE INPUT: true; the input reads as it did. -/
def fnChangedLinesSplicesAtLineStartsSpec : ChangeSpec := { name := "fnChangedLinesSplicesAtLineStarts", fn := fun _ => fun
  | [d1, d2] => { results := [.lit (.bool true)], args := [d1, d2] }
  | _ => none }
def fnChangedLinesSplicesAtLineStartsRow : OpenClaim := { program := "qxb6606341a", sum := "b5cabd1eb9ec6851dcfc750dda1f5aaac8c3a440993315a3dda963cb96c5ff94", func := "example.com/sway-over-roles/sway-over-roles/zzlaws_root_b1.FnChangedLinesSplicesAtLineStarts", spec := "fnChangedLinesSplicesAtLineStarts", apart := false }
def FnChangedLinesSplicesAtLineStartsSaid : Prop := fnChangedLinesSplicesAtLineStartsRow.holds Try.pinned (OpenSpec.ofChange fnChangedLinesSplicesAtLineStartsSpec)

/-- ITS FALSE NEIGHBOUR: 'it returns false'. Refute it at one input. -/
def fnChangedLinesSplicesAtLineStartsWrong : ChangeSpec := { name := "fnChangedLinesSplicesAtLineStarts", fn := fun _ => fun
  | [d1, d2] => { results := [.lit (.bool false)], args := [d1, d2] }
  | _ => none }
def FnChangedLinesSplicesAtLineStartsWrongFalsely : Prop := fnChangedLinesSplicesAtLineStartsRow.holds Try.pinned (OpenSpec.ofChange fnChangedLinesSplicesAtLineStartsWrong)

/-- 'zzlaws_root_b1.FnChangedLinesSwapSymmetric': WHATEVER THE INPUT: true; the input reads as it did. -/
def fnChangedLinesSwapSymmetricSpec : ChangeSpec := { name := "fnChangedLinesSwapSymmetric", fn := fun _ => fun
  | [d1, d2] => { results := [.lit (.bool true)], args := [d1, d2] }
  | _ => none }
def fnChangedLinesSwapSymmetricRow : OpenClaim := { program := "qxb6606341a", sum := "b5cabd1eb9ec6851dcfc750dda1f5aaac8c3a440993315a3dda963cb96c5ff94", func := "example.com/sway-over-roles/sway-over-roles/zzlaws_root_b1.FnChangedLinesSwapSymmetric", spec := "fnChangedLinesSwapSymmetric", apart := false }
def FnChangedLinesSwapSymmetricSaid : Prop := fnChangedLinesSwapSymmetricRow.holds Try.pinned (OpenSpec.ofChange fnChangedLinesSwapSymmetricSpec)

/-- ITS FALSE NEIGHBOUR: 'it returns false'. Refute it at one input. -/
def fnChangedLinesSwapSymmetricWrong : ChangeSpec := { name := "fnChangedLinesSwapSymmetric", fn := fun _ => fun
  | [d1, d2] => { results := [.lit (.bool false)], args := [d1, d2] }
  | _ => none }
def FnChangedLinesSwapSymmetricWrongFalsely : Prop := fnChangedLinesSwapSymmetricRow.holds Try.pinned (OpenSpec.ofChange fnChangedLinesSwapSymmetricWrong)

end Rows
end Go.Proofs.Qxb6606341a
