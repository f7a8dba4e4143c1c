/-
  No cell of these rows narrows 'for every input' (looked for: loops, veiled, ifaces, maps, wideKeys, modest, calm, conditions, laid).
  DERIVED. THE GIVEN ROWS OF THIS SEAT. 4 by the template 'for every input the law returns true; each argument reads behind the call as it read before'; 0 by the template 'total and deterministic' (their statements: Qxb6604582aTotals.lean).
  GIVEN WITH THE SEED: the statements are not yours to turn. If you find one false, say at which input.
  Laid BY PROGRAM, IN A SANDBOX (cutbox-rows.mjs): the forced cells as the released guide's own fill.sh prints them over the translation 5db0760c07ae41e6… (all of the seat's roots in one cut). By AI agents, Wed Nov 11 2026. No macro, syntax, notation, axiom, sorry.
-/
import Derived.Test.Qxb6604582aChecked
import GoSem.Claim
import GoSem.ClaimJoined
import GoSem.ClaimMapViews
import Derived.JoinedTies
import Derived.KernelRfl
namespace Go.Proofs.Qxb6604582a
/- THE CELL 'sum', in the pinned program and in every row, IS THE sha256 OF THE DUMP (.gsa) THAT Qxb6604582aProg.lean LOADS. Nothing in Lean hashes anything: it is a label: what it is worth is what the hold of that sum in a sandbox is worth. -/
noncomputable def Try.pinned : Pinned := { name := "qxb6604582a", sum := "5db0760c07ae41e6733d78b67057096050ae9822ca6610a89a2b209d8cde3c6f", checked := Try.checked }
namespace Rows
def none {H : Type} : Left H := { results := [], args := [] }

/-- 'zzlaws_pkg_precedence_b1.FnSortWorkBracketsAndDoubles': WHATEVER THE INPUT: true; the input reads as it did. -/
def fnSortWorkBracketsAndDoublesSpec : ChangeSpec := { name := "fnSortWorkBracketsAndDoubles", fn := fun _ => fun
  | [d] => { results := [.lit (.bool true)], args := [d] }
  | _ => none }
def fnSortWorkBracketsAndDoublesRow : OpenClaim := { program := "qxb6604582a", sum := "5db0760c07ae41e6733d78b67057096050ae9822ca6610a89a2b209d8cde3c6f", func := "example.com/interleave/interleave/zzlaws_pkg_precedence_b1.FnSortWorkBracketsAndDoubles", spec := "fnSortWorkBracketsAndDoubles", apart := false }
def FnSortWorkBracketsAndDoublesSaid : Prop := fnSortWorkBracketsAndDoublesRow.holds Try.pinned (OpenSpec.ofChange fnSortWorkBracketsAndDoublesSpec)

/-- ITS FALSE NEIGHBOUR: 'it returns false'. Refute it at one input. -/
def fnSortWorkBracketsAndDoublesWrong : ChangeSpec := { name := "fnSortWorkBracketsAndDoubles", fn := fun _ => fun
  | [d] => { results := [.lit (.bool false)], args := [d] }
  | _ => none }
def FnSortWorkBracketsAndDoublesWrongFalsely : Prop := fnSortWorkBracketsAndDoublesRow.holds Try.pinned (OpenSpec.ofChange fnSortWorkBracketsAndDoublesWrong)

/-- 'zzlaws_pkg_precedence_b1.FnSortWorkGrowsAtLeastItsPerElementCost': WHATEVER THE INPUT: true; the input reads as it did. -/
def fnSortWorkGrowsAtLeastItsPerElementCostSpec : ChangeSpec := { name := "fnSortWorkGrowsAtLeastItsPerElementCost", fn := fun _ => fun
  | [d1, d2] => { results := [.lit (.bool true)], args := [d1, d2] }
  | _ => none }
def fnSortWorkGrowsAtLeastItsPerElementCostRow : OpenClaim := { program := "qxb6604582a", sum := "5db0760c07ae41e6733d78b67057096050ae9822ca6610a89a2b209d8cde3c6f", func := "example.com/interleave/interleave/zzlaws_pkg_precedence_b1.FnSortWorkGrowsAtLeastItsPerElementCost", spec := "fnSortWorkGrowsAtLeastItsPerElementCost", apart := false }
def FnSortWorkGrowsAtLeastItsPerElementCostSaid : Prop := fnSortWorkGrowsAtLeastItsPerElementCostRow.holds Try.pinned (OpenSpec.ofChange fnSortWorkGrowsAtLeastItsPerElementCostSpec)

/-- ITS FALSE NEIGHBOUR: 'it returns false'. Refute it at one input. -/
def fnSortWorkGrowsAtLeastItsPerElementCostWrong : ChangeSpec := { name := "fnSortWorkGrowsAtLeastItsPerElementCost", fn := fun _ => fun
  | [d1, d2] => { results := [.lit (.bool false)], args := [d1, d2] }
  | _ => none }
def FnSortWorkGrowsAtLeastItsPerElementCostWrongFalsely : Prop := fnSortWorkGrowsAtLeastItsPerElementCostRow.holds Try.pinned (OpenSpec.ofChange fnSortWorkGrowsAtLeastItsPerElementCostWrong)

/-- 'zzlaws_pkg_precedence_b1.FnLiveStepsAreExactlyTheLiveAccesses': WHATEVER THE INPUT: true; the input reads as it did. -/
def fnLiveStepsAreExactlyTheLiveAccessesSpec : ChangeSpec := { name := "fnLiveStepsAreExactlyTheLiveAccesses", fn := fun _ => fun
  | [d1, d2] => { results := [.lit (.bool true)], args := [d1, d2] }
  | _ => none }
def fnLiveStepsAreExactlyTheLiveAccessesRow : OpenClaim := { program := "qxb6604582a", sum := "5db0760c07ae41e6733d78b67057096050ae9822ca6610a89a2b209d8cde3c6f", func := "example.com/interleave/interleave/zzlaws_pkg_precedence_b1.FnLiveStepsAreExactlyTheLiveAccesses", spec := "fnLiveStepsAreExactlyTheLiveAccesses", apart := false }
def FnLiveStepsAreExactlyTheLiveAccessesSaid : Prop := fnLiveStepsAreExactlyTheLiveAccessesRow.holds Try.pinned (OpenSpec.ofChange fnLiveStepsAreExactlyTheLiveAccessesSpec)

/-- ITS FALSE NEIGHBOUR: 'it returns false'. Refute it at one input. -/
def fnLiveStepsAreExactlyTheLiveAccessesWrong : ChangeSpec := { name := "fnLiveStepsAreExactlyTheLiveAccesses", fn := fun _ => fun
  | [d1, d2] => { results := [.lit (.bool false)], args := [d1, d2] }
  | _ => none }
def FnLiveStepsAreExactlyTheLiveAccessesWrongFalsely : Prop := fnLiveStepsAreExactlyTheLiveAccessesRow.holds Try.pinned (OpenSpec.ofChange fnLiveStepsAreExactlyTheLiveAccessesWrong)

/-- 'zzlaws_pkg_precedence_b1.FnLiveStepsMaskingOneStepDropsItAlone': WHATEVER THE INPUT: true; the input reads as it did. -/
def fnLiveStepsMaskingOneStepDropsItAloneSpec : ChangeSpec := { name := "fnLiveStepsMaskingOneStepDropsItAlone", fn := fun _ => fun
  | [d1, d2, d3] => { results := [.lit (.bool true)], args := [d1, d2, d3] }
  | _ => none }
def fnLiveStepsMaskingOneStepDropsItAloneRow : OpenClaim := { program := "qxb6604582a", sum := "5db0760c07ae41e6733d78b67057096050ae9822ca6610a89a2b209d8cde3c6f", func := "example.com/interleave/interleave/zzlaws_pkg_precedence_b1.FnLiveStepsMaskingOneStepDropsItAlone", spec := "fnLiveStepsMaskingOneStepDropsItAlone", apart := false }
def FnLiveStepsMaskingOneStepDropsItAloneSaid : Prop := fnLiveStepsMaskingOneStepDropsItAloneRow.holds Try.pinned (OpenSpec.ofChange fnLiveStepsMaskingOneStepDropsItAloneSpec)

/-- ITS FALSE NEIGHBOUR: 'it returns false'. Refute it at one input. -/
def fnLiveStepsMaskingOneStepDropsItAloneWrong : ChangeSpec := { name := "fnLiveStepsMaskingOneStepDropsItAlone", fn := fun _ => fun
  | [d1, d2, d3] => { results := [.lit (.bool false)], args := [d1, d2, d3] }
  | _ => none }
def FnLiveStepsMaskingOneStepDropsItAloneWrongFalsely : Prop := fnLiveStepsMaskingOneStepDropsItAloneRow.holds Try.pinned (OpenSpec.ofChange fnLiveStepsMaskingOneStepDropsItAloneWrong)

end Rows
end Go.Proofs.Qxb6604582a
