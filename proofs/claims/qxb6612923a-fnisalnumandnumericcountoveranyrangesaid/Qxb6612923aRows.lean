/-
  No cell of these rows narrows 'for every input' (looked for: loops, veiled, ifaces, maps, wideKeys, modest, calm, conditions, laid).
  DERIVED. THE GIVEN ROWS OF THIS SEAT. 2 by the template 'for every input the law returns true; each argument reads behind the call as it read before'; 0 by the template 'total and deterministic' (their statements: Qxb6612923aTotals.lean).
  GIVEN WITH THE SEED: the statements are not yours to turn. If you find one false, say at which input.
  Laid BY PROGRAM, IN A SANDBOX (cutbox-rows.mjs): the forced cells as the released guide's own fill.sh prints them over the translation 846f684a5d0de747… (all of the seat's roots in one cut). By AI agents, Wed Nov 11 2026. No macro, syntax, notation, axiom, sorry.
-/
import Derived.Test.Qxb6612923aChecked
import GoSem.Claim
import GoSem.ClaimJoined
import GoSem.ClaimMapViews
import Derived.JoinedTies
import Derived.KernelRfl
namespace Go.Proofs.Qxb6612923a
/- THE CELL 'sum', in the pinned program and in every row, IS THE sha256 OF THE DUMP (.gsa) THAT Qxb6612923aProg.lean LOADS. Nothing in Lean hashes anything: it is a label: what it is worth is what the hold of that sum in a sandbox is worth. -/
noncomputable def Try.pinned : Pinned := { name := "qxb6612923a", sum := "846f684a5d0de74728fdce6377b400fda5adebdfe7e6e64a7d465a72a28dd4bd", checked := Try.checked }
namespace Rows
def none {H : Type} : Left H := { results := [], args := [] }

/-- 'zzlaws_internal_recipe_b1.FnNumericSplitsAtAnyCutAndTakesDecimals': WHATEVER THE INPUT: true; the input reads as it did. -/
def fnNumericSplitsAtAnyCutAndTakesDecimalsSpec : ChangeSpec := { name := "fnNumericSplitsAtAnyCutAndTakesDecimals", fn := fun _ => fun
  | [d1, d2, d3] => { results := [.lit (.bool true)], args := [d1, d2, d3] }
  | _ => none }
def fnNumericSplitsAtAnyCutAndTakesDecimalsRow : OpenClaim := { program := "qxb6612923a", sum := "846f684a5d0de74728fdce6377b400fda5adebdfe7e6e64a7d465a72a28dd4bd", func := "example.com/ladle/ladle/zzlaws_internal_recipe_b1.FnNumericSplitsAtAnyCutAndTakesDecimals", spec := "fnNumericSplitsAtAnyCutAndTakesDecimals", unfollowed := true, recurses := true, apart := false }
def FnNumericSplitsAtAnyCutAndTakesDecimalsSaid : Prop := fnNumericSplitsAtAnyCutAndTakesDecimalsRow.holds Try.pinned (OpenSpec.ofChange fnNumericSplitsAtAnyCutAndTakesDecimalsSpec)

/-- ITS FALSE NEIGHBOUR: 'it returns false'. Refute it at one input. -/
def fnNumericSplitsAtAnyCutAndTakesDecimalsWrong : ChangeSpec := { name := "fnNumericSplitsAtAnyCutAndTakesDecimals", fn := fun _ => fun
  | [d1, d2, d3] => { results := [.lit (.bool false)], args := [d1, d2, d3] }
  | _ => none }
def FnNumericSplitsAtAnyCutAndTakesDecimalsWrongFalsely : Prop := fnNumericSplitsAtAnyCutAndTakesDecimalsRow.holds Try.pinned (OpenSpec.ofChange fnNumericSplitsAtAnyCutAndTakesDecimalsWrong)

/-- 'zzlaws_internal_recipe_b1.FnIsAlnumAndNumericCountOverAnyRange': WHATEVER THE INPUT: true; the input reads as it did. -/
def fnIsAlnumAndNumericCountOverAnyRangeSpec : ChangeSpec := { name := "fnIsAlnumAndNumericCountOverAnyRange", fn := fun _ => fun
  | [d1, d2] => { results := [.lit (.bool true)], args := [d1, d2] }
  | _ => none }
def fnIsAlnumAndNumericCountOverAnyRangeRow : OpenClaim := { program := "qxb6612923a", sum := "846f684a5d0de74728fdce6377b400fda5adebdfe7e6e64a7d465a72a28dd4bd", func := "example.com/ladle/ladle/zzlaws_internal_recipe_b1.FnIsAlnumAndNumericCountOverAnyRange", spec := "fnIsAlnumAndNumericCountOverAnyRange", unfollowed := true, recurses := true, apart := false }
def FnIsAlnumAndNumericCountOverAnyRangeSaid : Prop := fnIsAlnumAndNumericCountOverAnyRangeRow.holds Try.pinned (OpenSpec.ofChange fnIsAlnumAndNumericCountOverAnyRangeSpec)

/-- ITS FALSE NEIGHBOUR: 'it returns false'. Refute it at one input. -/
def fnIsAlnumAndNumericCountOverAnyRangeWrong : ChangeSpec := { name := "fnIsAlnumAndNumericCountOverAnyRange", fn := fun _ => fun
  | [d1, d2] => { results := [.lit (.bool false)], args := [d1, d2] }
  | _ => none }
def FnIsAlnumAndNumericCountOverAnyRangeWrongFalsely : Prop := fnIsAlnumAndNumericCountOverAnyRangeRow.holds Try.pinned (OpenSpec.ofChange fnIsAlnumAndNumericCountOverAnyRangeWrong)

end Rows
end Go.Proofs.Qxb6612923a
