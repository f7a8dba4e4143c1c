/-
  No cell of these rows narrows 'for every input' (looked for: loops, veiled, ifaces, maps, wideKeys, modest, calm, conditions, laid).
  DERIVED. THE GIVEN ROWS OF THIS SEAT. 6 by the template 'for every input the law returns true; each argument reads behind the call as it read before'; 0 by the template 'total and deterministic' (their statements: Qxb6604576aTotals.lean).
  GIVEN WITH THE SEED: the statements are not yours to turn. If you find one false, say at which input.
  Laid BY PROGRAM, IN A SANDBOX (cutbox-rows.mjs): the forced cells as the released guide's own fill.sh prints them over the translation 99579066f405c222… (all of the seat's roots in one cut). By AI agents, Wed Nov 11 2026. No macro, syntax, notation, axiom, sorry.
-/
import Derived.Test.Qxb6604576aChecked
import GoSem.Claim
import GoSem.ClaimJoined
import GoSem.ClaimMapViews
import Derived.JoinedTies
import Derived.KernelRfl
namespace Go.Proofs.Qxb6604576a
/- THE CELL 'sum', in the pinned program and in every row, IS THE sha256 OF THE DUMP (.gsa) THAT Qxb6604576aProg.lean LOADS. Nothing in Lean hashes anything: it is a label: what it is worth is what the hold of that sum in a sandbox is worth. -/
noncomputable def Try.pinned : Pinned := { name := "qxb6604576a", sum := "99579066f405c2228f9fabcd5e33141bbd1333cd744084f29ab2ab100307ffe8", checked := Try.checked }
namespace Rows
def none {H : Type} : Left H := { results := [], args := [] }

/-- 'zzlaws_pkg_locate_b1.FnPushAndCutKeepPathAsModelStack': WHATEVER THE INPUT: true; the input reads as it did. -/
def fnPushAndCutKeepPathAsModelStackSpec : ChangeSpec := { name := "fnPushAndCutKeepPathAsModelStack", fn := fun _ => fun
  | [d] => { results := [.lit (.bool true)], args := [d] }
  | _ => none }
def fnPushAndCutKeepPathAsModelStackRow : OpenClaim := { program := "qxb6604576a", sum := "99579066f405c2228f9fabcd5e33141bbd1333cd744084f29ab2ab100307ffe8", func := "example.com/hashmoor/hashmoor/zzlaws_pkg_locate_b1.FnPushAndCutKeepPathAsModelStack", spec := "fnPushAndCutKeepPathAsModelStack", apart := false }
def FnPushAndCutKeepPathAsModelStackSaid : Prop := fnPushAndCutKeepPathAsModelStackRow.holds Try.pinned (OpenSpec.ofChange fnPushAndCutKeepPathAsModelStackSpec)

/-- ITS FALSE NEIGHBOUR: 'it returns false'. Refute it at one input. -/
def fnPushAndCutKeepPathAsModelStackWrong : ChangeSpec := { name := "fnPushAndCutKeepPathAsModelStack", fn := fun _ => fun
  | [d] => { results := [.lit (.bool false)], args := [d] }
  | _ => none }
def FnPushAndCutKeepPathAsModelStackWrongFalsely : Prop := fnPushAndCutKeepPathAsModelStackRow.holds Try.pinned (OpenSpec.ofChange fnPushAndCutKeepPathAsModelStackWrong)

/-- 'zzlaws_pkg_locate_b1.FnPushCutBackPushReusesTheFrame': WHATEVER THE INPUT: true; the input reads as it did. -/
def fnPushCutBackPushReusesTheFrameSpec : ChangeSpec := { name := "fnPushCutBackPushReusesTheFrame", fn := fun _ => fun
  | [d1, d2, d3, d4, d5] => { results := [.lit (.bool true)], args := [d1, d2, d3, d4, d5] }
  | _ => none }
def fnPushCutBackPushReusesTheFrameRow : OpenClaim := { program := "qxb6604576a", sum := "99579066f405c2228f9fabcd5e33141bbd1333cd744084f29ab2ab100307ffe8", func := "example.com/hashmoor/hashmoor/zzlaws_pkg_locate_b1.FnPushCutBackPushReusesTheFrame", spec := "fnPushCutBackPushReusesTheFrame", apart := false }
def FnPushCutBackPushReusesTheFrameSaid : Prop := fnPushCutBackPushReusesTheFrameRow.holds Try.pinned (OpenSpec.ofChange fnPushCutBackPushReusesTheFrameSpec)

/-- ITS FALSE NEIGHBOUR: 'it returns false'. Refute it at one input. -/
def fnPushCutBackPushReusesTheFrameWrong : ChangeSpec := { name := "fnPushCutBackPushReusesTheFrame", fn := fun _ => fun
  | [d1, d2, d3, d4, d5] => { results := [.lit (.bool false)], args := [d1, d2, d3, d4, d5] }
  | _ => none }
def FnPushCutBackPushReusesTheFrameWrongFalsely : Prop := fnPushCutBackPushReusesTheFrameRow.holds Try.pinned (OpenSpec.ofChange fnPushCutBackPushReusesTheFrameWrong)

/-- 'zzlaws_pkg_locate_b1.FnCutFreesExactlyUnkeptFramesAbove': WHATEVER THE INPUT: true; the input reads as it did. -/
def fnCutFreesExactlyUnkeptFramesAboveSpec : ChangeSpec := { name := "fnCutFreesExactlyUnkeptFramesAbove", fn := fun _ => fun
  | [d1, d2] => { results := [.lit (.bool true)], args := [d1, d2] }
  | _ => none }
def fnCutFreesExactlyUnkeptFramesAboveRow : OpenClaim := { program := "qxb6604576a", sum := "99579066f405c2228f9fabcd5e33141bbd1333cd744084f29ab2ab100307ffe8", func := "example.com/hashmoor/hashmoor/zzlaws_pkg_locate_b1.FnCutFreesExactlyUnkeptFramesAbove", spec := "fnCutFreesExactlyUnkeptFramesAbove", apart := false }
def FnCutFreesExactlyUnkeptFramesAboveSaid : Prop := fnCutFreesExactlyUnkeptFramesAboveRow.holds Try.pinned (OpenSpec.ofChange fnCutFreesExactlyUnkeptFramesAboveSpec)

/-- ITS FALSE NEIGHBOUR: 'it returns false'. Refute it at one input. -/
def fnCutFreesExactlyUnkeptFramesAboveWrong : ChangeSpec := { name := "fnCutFreesExactlyUnkeptFramesAbove", fn := fun _ => fun
  | [d1, d2] => { results := [.lit (.bool false)], args := [d1, d2] }
  | _ => none }
def FnCutFreesExactlyUnkeptFramesAboveWrongFalsely : Prop := fnCutFreesExactlyUnkeptFramesAboveRow.holds Try.pinned (OpenSpec.ofChange fnCutFreesExactlyUnkeptFramesAboveWrong)

/-- 'zzlaws_pkg_locate_b1.FnCutTwiceEqualsCutToLower': WHATEVER THE INPUT: true; the input reads as it did. -/
def fnCutTwiceEqualsCutToLowerSpec : ChangeSpec := { name := "fnCutTwiceEqualsCutToLower", fn := fun _ => fun
  | [d1, d2, d3] => { results := [.lit (.bool true)], args := [d1, d2, d3] }
  | _ => none }
def fnCutTwiceEqualsCutToLowerRow : OpenClaim := { program := "qxb6604576a", sum := "99579066f405c2228f9fabcd5e33141bbd1333cd744084f29ab2ab100307ffe8", func := "example.com/hashmoor/hashmoor/zzlaws_pkg_locate_b1.FnCutTwiceEqualsCutToLower", spec := "fnCutTwiceEqualsCutToLower", apart := false }
def FnCutTwiceEqualsCutToLowerSaid : Prop := fnCutTwiceEqualsCutToLowerRow.holds Try.pinned (OpenSpec.ofChange fnCutTwiceEqualsCutToLowerSpec)

/-- ITS FALSE NEIGHBOUR: 'it returns false'. Refute it at one input. -/
def fnCutTwiceEqualsCutToLowerWrong : ChangeSpec := { name := "fnCutTwiceEqualsCutToLower", fn := fun _ => fun
  | [d1, d2, d3] => { results := [.lit (.bool false)], args := [d1, d2, d3] }
  | _ => none }
def FnCutTwiceEqualsCutToLowerWrongFalsely : Prop := fnCutTwiceEqualsCutToLowerRow.holds Try.pinned (OpenSpec.ofChange fnCutTwiceEqualsCutToLowerWrong)

/-- 'zzlaws_pkg_locate_b1.FnInsideTellsLastFrameKind': WHATEVER THE INPUT: true; the input reads as it did. -/
def fnInsideTellsLastFrameKindSpec : ChangeSpec := { name := "fnInsideTellsLastFrameKind", fn := fun _ => fun
  | [d1, d2] => { results := [.lit (.bool true)], args := [d1, d2] }
  | _ => none }
def fnInsideTellsLastFrameKindRow : OpenClaim := { program := "qxb6604576a", sum := "99579066f405c2228f9fabcd5e33141bbd1333cd744084f29ab2ab100307ffe8", func := "example.com/hashmoor/hashmoor/zzlaws_pkg_locate_b1.FnInsideTellsLastFrameKind", spec := "fnInsideTellsLastFrameKind", apart := false }
def FnInsideTellsLastFrameKindSaid : Prop := fnInsideTellsLastFrameKindRow.holds Try.pinned (OpenSpec.ofChange fnInsideTellsLastFrameKindSpec)

/-- ITS FALSE NEIGHBOUR: 'it returns false'. Refute it at one input. -/
def fnInsideTellsLastFrameKindWrong : ChangeSpec := { name := "fnInsideTellsLastFrameKind", fn := fun _ => fun
  | [d1, d2] => { results := [.lit (.bool false)], args := [d1, d2] }
  | _ => none }
def FnInsideTellsLastFrameKindWrongFalsely : Prop := fnInsideTellsLastFrameKindRow.holds Try.pinned (OpenSpec.ofChange fnInsideTellsLastFrameKindWrong)

/-- 'zzlaws_pkg_locate_b1.FnInsideFollowsUnwinding': WHATEVER THE INPUT: true; the input reads as it did. -/
def fnInsideFollowsUnwindingSpec : ChangeSpec := { name := "fnInsideFollowsUnwinding", fn := fun _ => fun
  | [d1, d2] => { results := [.lit (.bool true)], args := [d1, d2] }
  | _ => none }
def fnInsideFollowsUnwindingRow : OpenClaim := { program := "qxb6604576a", sum := "99579066f405c2228f9fabcd5e33141bbd1333cd744084f29ab2ab100307ffe8", func := "example.com/hashmoor/hashmoor/zzlaws_pkg_locate_b1.FnInsideFollowsUnwinding", spec := "fnInsideFollowsUnwinding", apart := false }
def FnInsideFollowsUnwindingSaid : Prop := fnInsideFollowsUnwindingRow.holds Try.pinned (OpenSpec.ofChange fnInsideFollowsUnwindingSpec)

/-- ITS FALSE NEIGHBOUR: 'it returns false'. Refute it at one input. -/
def fnInsideFollowsUnwindingWrong : ChangeSpec := { name := "fnInsideFollowsUnwinding", fn := fun _ => fun
  | [d1, d2] => { results := [.lit (.bool false)], args := [d1, d2] }
  | _ => none }
def FnInsideFollowsUnwindingWrongFalsely : Prop := fnInsideFollowsUnwindingRow.holds Try.pinned (OpenSpec.ofChange fnInsideFollowsUnwindingWrong)

end Rows
end Go.Proofs.Qxb6604576a
