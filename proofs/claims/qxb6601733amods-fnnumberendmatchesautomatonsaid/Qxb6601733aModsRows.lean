/-
  No cell of these rows narrows 'for every input' (looked for: loops, veiled, ifaces, maps, wideKeys, modest, calm, conditions, laid).
  DERIVED. THE GIVEN ROWS OF THIS SEAT. 2 by the template 'for every input the law returns true; each argument reads behind the call as it read before'; 0 by the template 'total and deterministic' (their statements: Qxb6601733aModsTotals.lean).
  GIVEN WITH THE SEED: the statements are not yours to turn. If you find one false, say at which input.
  Laid BY PROGRAM, IN A SANDBOX (cutbox-rows.mjs): the forced cells as the released guide's own fill.sh prints them over the translation b0fabcdf58cc1c77… (all of the seat's roots in one cut). By AI agents, Wed Nov 11 2026. No macro, syntax, notation, axiom, sorry.
-/
import Derived.Test.Qxb6601733aModsChecked
import GoSem.Claim
import GoSem.ClaimJoined
import GoSem.ClaimMapViews
import Derived.JoinedTies
import Derived.KernelRfl
namespace Go.Proofs.Qxb6601733aMods
/- THE CELL 'sum', in the pinned program and in every row, IS THE sha256 OF THE DUMP (.gsa) THAT Qxb6601733aModsProg.lean LOADS. Nothing in Lean hashes anything: it is a label: what it is worth is what the hold of that sum in a sandbox is worth. -/
noncomputable def Trym.pinned : Pinned := { name := "qxb6601733amods", sum := "b0fabcdf58cc1c779e918d0b4d98b367ecb7fd40a5b334c88cda48be4b4a3d8f", checked := Trym.checked }
namespace Rows
def none {H : Type} : Left H := { results := [], args := [] }

/-- 'zzlaws_root_b1.FnNumberEndMatchesAutomaton': WHATEVER THE INPUT: true; the input reads as it did. -/
def fnNumberEndMatchesAutomatonSpec : ChangeSpec := { name := "fnNumberEndMatchesAutomaton", fn := fun _ => fun
  | [d1, d2] => { results := [.lit (.bool true)], args := [d1, d2] }
  | _ => none }
def fnNumberEndMatchesAutomatonRow : OpenClaim := { program := "qxb6601733amods", sum := "b0fabcdf58cc1c779e918d0b4d98b367ecb7fd40a5b334c88cda48be4b4a3d8f", func := "example.com/interpolation/interpolation/zzlaws_root_b1.FnNumberEndMatchesAutomaton", spec := "fnNumberEndMatchesAutomaton", make := .lifted ["publicsums"], apart := false }
def FnNumberEndMatchesAutomatonSaid : Prop := fnNumberEndMatchesAutomatonRow.holds Trym.pinned (OpenSpec.ofChange fnNumberEndMatchesAutomatonSpec)

/-- ITS FALSE NEIGHBOUR: 'it returns false'. Refute it at one input. -/
def fnNumberEndMatchesAutomatonWrong : ChangeSpec := { name := "fnNumberEndMatchesAutomaton", fn := fun _ => fun
  | [d1, d2] => { results := [.lit (.bool false)], args := [d1, d2] }
  | _ => none }
def FnNumberEndMatchesAutomatonWrongFalsely : Prop := fnNumberEndMatchesAutomatonRow.holds Trym.pinned (OpenSpec.ofChange fnNumberEndMatchesAutomatonWrong)

/-- 'zzlaws_root_b1.FnNumberEndReadsOnlyFromStart': WHATEVER THE INPUT: true; the input reads as it did. -/
def fnNumberEndReadsOnlyFromStartSpec : ChangeSpec := { name := "fnNumberEndReadsOnlyFromStart", fn := fun _ => fun
  | [d1, d2] => { results := [.lit (.bool true)], args := [d1, d2] }
  | _ => none }
def fnNumberEndReadsOnlyFromStartRow : OpenClaim := { program := "qxb6601733amods", sum := "b0fabcdf58cc1c779e918d0b4d98b367ecb7fd40a5b334c88cda48be4b4a3d8f", func := "example.com/interpolation/interpolation/zzlaws_root_b1.FnNumberEndReadsOnlyFromStart", spec := "fnNumberEndReadsOnlyFromStart", make := .lifted ["publicsums"], apart := false }
def FnNumberEndReadsOnlyFromStartSaid : Prop := fnNumberEndReadsOnlyFromStartRow.holds Trym.pinned (OpenSpec.ofChange fnNumberEndReadsOnlyFromStartSpec)

/-- ITS FALSE NEIGHBOUR: 'it returns false'. Refute it at one input. -/
def fnNumberEndReadsOnlyFromStartWrong : ChangeSpec := { name := "fnNumberEndReadsOnlyFromStart", fn := fun _ => fun
  | [d1, d2] => { results := [.lit (.bool false)], args := [d1, d2] }
  | _ => none }
def FnNumberEndReadsOnlyFromStartWrongFalsely : Prop := fnNumberEndReadsOnlyFromStartRow.holds Trym.pinned (OpenSpec.ofChange fnNumberEndReadsOnlyFromStartWrong)

end Rows
end Go.Proofs.Qxb6601733aMods
