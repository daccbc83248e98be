/-
  No cell of these rows narrows 'for every input' (looked for: loops, veiled, ifaces, maps, wideKeys, modest, calm, conditions, laid).
  DERIVED. THE GIVEN ROWS OF THIS SEAT. 3 by the template 'for every input the law returns true; each argument reads behind the call as it read before'; 0 by the template 'total and deterministic' (their statements: Qxb6612899aTotals.lean).
  GIVEN WITH THE SEED: the statements are not yours to turn. If you find one false, say at which input.
  Laid BY PROGRAM, IN A SANDBOX (cutbox-rows.mjs): the forced cells as the released guide's own fill.sh prints them over the translation 6df77b09c064744a… (all of the seat's roots in one cut). By AI agents, Wed Nov 11 2026. No macro, syntax, notation, axiom, sorry.
-/
import Derived.Test.Qxb6612899aChecked
import GoSem.Claim
import GoSem.ClaimJoined
import GoSem.ClaimMapViews
import Derived.JoinedTies
import Derived.KernelRfl
namespace Go.Proofs.Qxb6612899a
/- THE CELL 'sum', in the pinned program and in every row, IS THE sha256 OF THE DUMP (.gsa) THAT Qxb6612899aProg.lean LOADS. Nothing in Lean hashes anything: it is a label: what it is worth is what the hold of that sum in a sandbox is worth. -/
noncomputable def Try.pinned : Pinned := { name := "qxb6612899a", sum := "6df77b09c064744a80aa30c3e9cfb92340402eb00f1941d3023c90629c3e147d", checked := Try.checked }
namespace Rows
def none {H : Type} : Left H := { results := [], args := [] }

/-- 'zzlaws_root_b1.FnZip64ExactlyWhenAFieldEscapes32': WHATEVER THE INPUT: true; the input reads as it did. -/
def fnZip64ExactlyWhenAFieldEscapes32Spec : ChangeSpec := { name := "fnZip64ExactlyWhenAFieldEscapes32", fn := fun _ => fun
  | [d1, d2, d3, d4, d5, d6] => { results := [.lit (.bool true)], args := [d1, d2, d3, d4, d5, d6] }
  | _ => none }
def fnZip64ExactlyWhenAFieldEscapes32Row : OpenClaim := { program := "qxb6612899a", sum := "6df77b09c064744a80aa30c3e9cfb92340402eb00f1941d3023c90629c3e147d", func := "example.com/sealpack/sealpack/zzlaws_root_b1.FnZip64ExactlyWhenAFieldEscapes32", spec := "fnZip64ExactlyWhenAFieldEscapes32", apart := false }
def FnZip64ExactlyWhenAFieldEscapes32Said : Prop := fnZip64ExactlyWhenAFieldEscapes32Row.holds Try.pinned (OpenSpec.ofChange fnZip64ExactlyWhenAFieldEscapes32Spec)

/-- ITS FALSE NEIGHBOUR: 'it returns false'. Refute it at one input. -/
def fnZip64ExactlyWhenAFieldEscapes32Wrong : ChangeSpec := { name := "fnZip64ExactlyWhenAFieldEscapes32", fn := fun _ => fun
  | [d1, d2, d3, d4, d5, d6] => { results := [.lit (.bool false)], args := [d1, d2, d3, d4, d5, d6] }
  | _ => none }
def FnZip64ExactlyWhenAFieldEscapes32WrongFalsely : Prop := fnZip64ExactlyWhenAFieldEscapes32Row.holds Try.pinned (OpenSpec.ofChange fnZip64ExactlyWhenAFieldEscapes32Wrong)

/-- 'zzlaws_root_b1.FnZip64CoversLargeSizes': WHATEVER THE INPUT: true; the input reads as it did. -/
def fnZip64CoversLargeSizesSpec : ChangeSpec := { name := "fnZip64CoversLargeSizes", fn := fun _ => fun
  | [d1, d2, d3, d4, d5, d6] => { results := [.lit (.bool true)], args := [d1, d2, d3, d4, d5, d6] }
  | _ => none }
def fnZip64CoversLargeSizesRow : OpenClaim := { program := "qxb6612899a", sum := "6df77b09c064744a80aa30c3e9cfb92340402eb00f1941d3023c90629c3e147d", func := "example.com/sealpack/sealpack/zzlaws_root_b1.FnZip64CoversLargeSizes", spec := "fnZip64CoversLargeSizes", apart := false }
def FnZip64CoversLargeSizesSaid : Prop := fnZip64CoversLargeSizesRow.holds Try.pinned (OpenSpec.ofChange fnZip64CoversLargeSizesSpec)

/-- ITS FALSE NEIGHBOUR: 'it returns false'. Refute it at one input. -/
def fnZip64CoversLargeSizesWrong : ChangeSpec := { name := "fnZip64CoversLargeSizes", fn := fun _ => fun
  | [d1, d2, d3, d4, d5, d6] => { results := [.lit (.bool false)], args := [d1, d2, d3, d4, d5, d6] }
  | _ => none }
def FnZip64CoversLargeSizesWrongFalsely : Prop := fnZip64CoversLargeSizesRow.holds Try.pinned (OpenSpec.ofChange fnZip64CoversLargeSizesWrong)

/-- 'zzlaws_root_b1.FnIsStringTellsJSONKinds': WHATEVER THE INPUT: true; the input reads as it did. -/
def fnIsStringTellsJSONKindsSpec : ChangeSpec := { name := "fnIsStringTellsJSONKinds", fn := fun _ => fun
  | [d1, d2] => { results := [.lit (.bool true)], args := [d1, d2] }
  | _ => none }
def fnIsStringTellsJSONKindsRow : OpenClaim := { program := "qxb6612899a", sum := "6df77b09c064744a80aa30c3e9cfb92340402eb00f1941d3023c90629c3e147d", func := "example.com/sealpack/sealpack/zzlaws_root_b1.FnIsStringTellsJSONKinds", spec := "fnIsStringTellsJSONKinds", apart := false }
def FnIsStringTellsJSONKindsSaid : Prop := fnIsStringTellsJSONKindsRow.holds Try.pinned (OpenSpec.ofChange fnIsStringTellsJSONKindsSpec)

/-- ITS FALSE NEIGHBOUR: 'it returns false'. Refute it at one input. -/
def fnIsStringTellsJSONKindsWrong : ChangeSpec := { name := "fnIsStringTellsJSONKinds", fn := fun _ => fun
  | [d1, d2] => { results := [.lit (.bool false)], args := [d1, d2] }
  | _ => none }
def FnIsStringTellsJSONKindsWrongFalsely : Prop := fnIsStringTellsJSONKindsRow.holds Try.pinned (OpenSpec.ofChange fnIsStringTellsJSONKindsWrong)

end Rows
end Go.Proofs.Qxb6612899a
