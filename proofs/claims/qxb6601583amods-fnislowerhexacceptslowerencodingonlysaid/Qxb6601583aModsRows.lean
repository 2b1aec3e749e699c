/-
  No cell of these rows narrows 'for every input' (looked for: loops, veiled, ifaces, maps, wideKeys, modest, calm, conditions, laid).
  DERIVED. THE GIVEN ROWS OF THIS SEAT. 2 by the template 'for every input the law returns true; each argument reads behind the call as it read before'; 0 by the template 'total and deterministic' (their statements: Qxb6601583aModsTotals.lean).
  GIVEN WITH THE SEED: the statements are not yours to turn. If you find one false, say at which input.
  Laid BY PROGRAM, IN A SANDBOX (cutbox-rows.mjs): the forced cells as the released guide's own fill.sh prints them over the translation eeba218e407a63bb… (all of the seat's roots in one cut). By AI agents, Wed Nov 11 2026. No macro, syntax, notation, axiom, sorry.
-/
import Derived.Test.Qxb6601583aModsChecked
import GoSem.Claim
import GoSem.ClaimJoined
import GoSem.ClaimMapViews
import Derived.JoinedTies
import Derived.KernelRfl
namespace Go.Proofs.Qxb6601583aMods
/- THE CELL 'sum', in the pinned program and in every row, IS THE sha256 OF THE DUMP (.gsa) THAT Qxb6601583aModsProg.lean LOADS. Nothing in Lean hashes anything: it is a label: what it is worth is what the hold of that sum in a sandbox is worth. -/
noncomputable def Trym.pinned : Pinned := { name := "qxb6601583amods", sum := "eeba218e407a63bb227079a43ba4e65e5ad0f91aafd1dcfd37a695f5f98ad6f6", checked := Trym.checked }
namespace Rows
def none {H : Type} : Left H := { results := [], args := [] }

/-- 'zzlaws_root_b1.FnIsLowerHexOfConcatenation': WHATEVER THE INPUT: true; the input reads as it did. -/
def fnIsLowerHexOfConcatenationSpec : ChangeSpec := { name := "fnIsLowerHexOfConcatenation", fn := fun _ => fun
  | [d1, d2] => { results := [.lit (.bool true)], args := [d1, d2] }
  | _ => none }
def fnIsLowerHexOfConcatenationRow : OpenClaim := { program := "qxb6601583amods", sum := "eeba218e407a63bb227079a43ba4e65e5ad0f91aafd1dcfd37a695f5f98ad6f6", func := "example.com/revoke/revoke/zzlaws_root_b1.FnIsLowerHexOfConcatenation", spec := "fnIsLowerHexOfConcatenation", make := .lifted ["publicsums"], apart := false }
def FnIsLowerHexOfConcatenationSaid : Prop := fnIsLowerHexOfConcatenationRow.holds Trym.pinned (OpenSpec.ofChange fnIsLowerHexOfConcatenationSpec)

/-- ITS FALSE NEIGHBOUR: 'it returns false'. Refute it at one input. -/
def fnIsLowerHexOfConcatenationWrong : ChangeSpec := { name := "fnIsLowerHexOfConcatenation", fn := fun _ => fun
  | [d1, d2] => { results := [.lit (.bool false)], args := [d1, d2] }
  | _ => none }
def FnIsLowerHexOfConcatenationWrongFalsely : Prop := fnIsLowerHexOfConcatenationRow.holds Trym.pinned (OpenSpec.ofChange fnIsLowerHexOfConcatenationWrong)

/-- 'zzlaws_root_b1.FnIsLowerHexAcceptsLowerEncodingOnly': WHATEVER THE INPUT: true; the input reads as it did. -/
def fnIsLowerHexAcceptsLowerEncodingOnlySpec : ChangeSpec := { name := "fnIsLowerHexAcceptsLowerEncodingOnly", fn := fun _ => fun
  | [d] => { results := [.lit (.bool true)], args := [d] }
  | _ => none }
def fnIsLowerHexAcceptsLowerEncodingOnlyRow : OpenClaim := { program := "qxb6601583amods", sum := "eeba218e407a63bb227079a43ba4e65e5ad0f91aafd1dcfd37a695f5f98ad6f6", func := "example.com/revoke/revoke/zzlaws_root_b1.FnIsLowerHexAcceptsLowerEncodingOnly", spec := "fnIsLowerHexAcceptsLowerEncodingOnly", make := .lifted ["publicsums"], apart := false }
def FnIsLowerHexAcceptsLowerEncodingOnlySaid : Prop := fnIsLowerHexAcceptsLowerEncodingOnlyRow.holds Trym.pinned (OpenSpec.ofChange fnIsLowerHexAcceptsLowerEncodingOnlySpec)

/-- ITS FALSE NEIGHBOUR: 'it returns false'. Refute it at one input. -/
def fnIsLowerHexAcceptsLowerEncodingOnlyWrong : ChangeSpec := { name := "fnIsLowerHexAcceptsLowerEncodingOnly", fn := fun _ => fun
  | [d] => { results := [.lit (.bool false)], args := [d] }
  | _ => none }
def FnIsLowerHexAcceptsLowerEncodingOnlyWrongFalsely : Prop := fnIsLowerHexAcceptsLowerEncodingOnlyRow.holds Trym.pinned (OpenSpec.ofChange fnIsLowerHexAcceptsLowerEncodingOnlyWrong)

end Rows
end Go.Proofs.Qxb6601583aMods
