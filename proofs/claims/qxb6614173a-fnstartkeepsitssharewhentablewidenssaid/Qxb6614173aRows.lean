/-
  No cell of these rows narrows 'for every input' (looked for: loops, veiled, ifaces, maps, wideKeys, modest, calm, conditions, laid).
  DERIVED. THE GIVEN ROWS OF THIS SEAT. 1 by the template 'for every input the law returns true; each argument reads behind the call as it read before'; 0 by the template 'total and deterministic' (their statements: Qxb6614173aTotals.lean).
  GIVEN WITH THE SEED: the statements are not yours to turn. If you find one false, say at which input.
  Laid BY PROGRAM, IN A SANDBOX (cutbox-rows.mjs): the forced cells as the released guide's own fill.sh prints them over the translation 4353adad92d42695… (all of the seat's roots in one cut). By AI agents, Wed Nov 11 2026. No macro, syntax, notation, axiom, sorry.
-/
import Derived.Test.Qxb6614173aChecked
import GoSem.Claim
import GoSem.ClaimJoined
import GoSem.ClaimMapViews
import Derived.JoinedTies
import Derived.KernelRfl
namespace Go.Proofs.Qxb6614173a
/- THE CELL 'sum', in the pinned program and in every row, IS THE sha256 OF THE DUMP (.gsa) THAT Qxb6614173aProg.lean LOADS. Nothing in Lean hashes anything: it is a label: what it is worth is what the hold of that sum in a sandbox is worth. -/
noncomputable def Try.pinned : Pinned := { name := "qxb6614173a", sum := "4353adad92d426954437f208bc3554db5abd60a08c2ea7087284bf3ef64e0d15", checked := Try.checked }
namespace Rows
def none {H : Type} : Left H := { results := [], args := [] }

/-- 'zzlaws_internal_lock_b1.FnStartKeepsItsShareWhenTableWidens': WHATEVER THE INPUT: true; the input reads as it did. -/
def fnStartKeepsItsShareWhenTableWidensSpec : ChangeSpec := { name := "fnStartKeepsItsShareWhenTableWidens", fn := fun _ => fun
  | [d] => { results := [.lit (.bool true)], args := [d] }
  | _ => none }
def fnStartKeepsItsShareWhenTableWidensRow : OpenClaim := { program := "qxb6614173a", sum := "4353adad92d426954437f208bc3554db5abd60a08c2ea7087284bf3ef64e0d15", func := "example.com/holdfast/holdfast/zzlaws_internal_lock_b1.FnStartKeepsItsShareWhenTableWidens", spec := "fnStartKeepsItsShareWhenTableWidens", apart := false }
def FnStartKeepsItsShareWhenTableWidensSaid : Prop := fnStartKeepsItsShareWhenTableWidensRow.holds Try.pinned (OpenSpec.ofChange fnStartKeepsItsShareWhenTableWidensSpec)

/-- ITS FALSE NEIGHBOUR: 'it returns false'. Refute it at one input. -/
def fnStartKeepsItsShareWhenTableWidensWrong : ChangeSpec := { name := "fnStartKeepsItsShareWhenTableWidens", fn := fun _ => fun
  | [d] => { results := [.lit (.bool false)], args := [d] }
  | _ => none }
def FnStartKeepsItsShareWhenTableWidensWrongFalsely : Prop := fnStartKeepsItsShareWhenTableWidensRow.holds Try.pinned (OpenSpec.ofChange fnStartKeepsItsShareWhenTableWidensWrong)

end Rows
end Go.Proofs.Qxb6614173a
