/-
  No cell of these rows narrows 'for every input' (looked for: loops, veiled, ifaces, maps, wideKeys, modest, calm, conditions, laid).
  DERIVED. THE GIVEN ROWS OF THIS SEAT. 1 by the template 'for every input the law returns true; each argument reads behind the call as it read before'; 0 by the template 'total and deterministic' (their statements: Qxb6613125aTotals.lean).
  GIVEN WITH THE SEED: the statements are not yours to turn. If you find one false, say at which input.
  Laid BY PROGRAM, IN A SANDBOX (cutbox-rows.mjs): the forced cells as the released guide's own fill.sh prints them over the translation 906fc20f55d96a13… (all of the seat's roots in one cut). By AI agents, Wed Nov 11 2026. No macro, syntax, notation, axiom, sorry.
-/
import Derived.Test.Qxb6613125aChecked
import GoSem.Claim
import GoSem.ClaimJoined
import GoSem.ClaimMapViews
import Derived.JoinedTies
import Derived.KernelRfl
namespace Go.Proofs.Qxb6613125a
/- THE CELL 'sum', in the pinned program and in every row, IS THE sha256 OF THE DUMP (.gsa) THAT Qxb6613125aProg.lean LOADS. Nothing in Lean hashes anything: it is a label: what it is worth is what the hold of that sum in a sandbox is worth. -/
noncomputable def Try.pinned : Pinned := { name := "qxb6613125a", sum := "906fc20f55d96a131e5168e447c64a84e2d9faccff2f655fac3a623e0e979d9b", checked := Try.checked }
namespace Rows
def none {H : Type} : Left H := { results := [], args := [] }

/-- 'zzlaws_internal_resp_b1.FnWriterNullArrayAppendsFrames': WHATEVER THE INPUT: true; the input reads as it did. -/
def fnWriterNullArrayAppendsFramesSpec : ChangeSpec := { name := "fnWriterNullArrayAppendsFrames", fn := fun _ => fun
  | [d1, d2, d3] => { results := [.lit (.bool true)], args := [d1, d2, d3] }
  | _ => none }
def fnWriterNullArrayAppendsFramesRow : OpenClaim := { program := "qxb6613125a", sum := "906fc20f55d96a131e5168e447c64a84e2d9faccff2f655fac3a623e0e979d9b", func := "example.com/narrow-store/narrow-store/zzlaws_internal_resp_b1.FnWriterNullArrayAppendsFrames", spec := "fnWriterNullArrayAppendsFrames", apart := false }
def FnWriterNullArrayAppendsFramesSaid : Prop := fnWriterNullArrayAppendsFramesRow.holds Try.pinned (OpenSpec.ofChange fnWriterNullArrayAppendsFramesSpec)

/-- ITS FALSE NEIGHBOUR: 'it returns false'. Refute it at one input. -/
def fnWriterNullArrayAppendsFramesWrong : ChangeSpec := { name := "fnWriterNullArrayAppendsFrames", fn := fun _ => fun
  | [d1, d2, d3] => { results := [.lit (.bool false)], args := [d1, d2, d3] }
  | _ => none }
def FnWriterNullArrayAppendsFramesWrongFalsely : Prop := fnWriterNullArrayAppendsFramesRow.holds Try.pinned (OpenSpec.ofChange fnWriterNullArrayAppendsFramesWrong)

end Rows
end Go.Proofs.Qxb6613125a
