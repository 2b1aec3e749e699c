/-
  No cell of these rows narrows 'for every input' (looked for: loops, veiled, ifaces, maps, wideKeys, modest, calm, conditions, laid).
  DERIVED. THE GIVEN ROWS OF THIS SEAT. 5 by the template 'for every input the law returns true; each argument reads behind the call as it read before'; 0 by the template 'total and deterministic' (their statements: Qxb6601661aModsTotals.lean).
  GIVEN WITH THE SEED: the statements are not yours to turn. If you find one false, say at which input.
  Laid BY PROGRAM, IN A SANDBOX (cutbox-rows.mjs): the forced cells as the released guide's own fill.sh prints them over the translation 9ae1998208dfa300… (all of the seat's roots in one cut). By AI agents, Wed Nov 11 2026. No macro, syntax, notation, axiom, sorry.
-/
import Derived.Test.Qxb6601661aModsChecked
import GoSem.Claim
import GoSem.ClaimJoined
import GoSem.ClaimMapViews
import Derived.JoinedTies
import Derived.KernelRfl
namespace Go.Proofs.Qxb6601661aMods
/- THE CELL 'sum', in the pinned program and in every row, IS THE sha256 OF THE DUMP (.gsa) THAT Qxb6601661aModsProg.lean LOADS. Nothing in Lean hashes anything: it is a label: what it is worth is what the hold of that sum in a sandbox is worth. -/
noncomputable def Trym.pinned : Pinned := { name := "qxb6601661amods", sum := "9ae1998208dfa3005270fe81f8bafef477dbbbff0a6ffde7c7dff4f4bb140769", checked := Trym.checked }
namespace Rows
def none {H : Type} : Left H := { results := [], args := [] }

/-- 'zzlaws_root_b1.FnIsDigitsOfConcatenation': WHATEVER THE INPUT: true; the input reads as it did. -/
def fnIsDigitsOfConcatenationSpec : ChangeSpec := { name := "fnIsDigitsOfConcatenation", fn := fun _ => fun
  | [d1, d2] => { results := [.lit (.bool true)], args := [d1, d2] }
  | _ => none }
def fnIsDigitsOfConcatenationRow : OpenClaim := { program := "qxb6601661amods", sum := "9ae1998208dfa3005270fe81f8bafef477dbbbff0a6ffde7c7dff4f4bb140769", func := "example.com/credential-pool/credential-pool/zzlaws_root_b1.FnIsDigitsOfConcatenation", spec := "fnIsDigitsOfConcatenation", make := .lifted ["publicsums"], apart := false }
def FnIsDigitsOfConcatenationSaid : Prop := fnIsDigitsOfConcatenationRow.holds Trym.pinned (OpenSpec.ofChange fnIsDigitsOfConcatenationSpec)

/-- ITS FALSE NEIGHBOUR: 'it returns false'. Refute it at one input. -/
def fnIsDigitsOfConcatenationWrong : ChangeSpec := { name := "fnIsDigitsOfConcatenation", fn := fun _ => fun
  | [d1, d2] => { results := [.lit (.bool false)], args := [d1, d2] }
  | _ => none }
def FnIsDigitsOfConcatenationWrongFalsely : Prop := fnIsDigitsOfConcatenationRow.holds Trym.pinned (OpenSpec.ofChange fnIsDigitsOfConcatenationWrong)

/-- 'zzlaws_root_b1.FnIsDigitsAcceptsEveryDecimalNumeral': WHATEVER THE INPUT: true; the input reads as it did. -/
def fnIsDigitsAcceptsEveryDecimalNumeralSpec : ChangeSpec := { name := "fnIsDigitsAcceptsEveryDecimalNumeral", fn := fun _ => fun
  | [d] => { results := [.lit (.bool true)], args := [d] }
  | _ => none }
def fnIsDigitsAcceptsEveryDecimalNumeralRow : OpenClaim := { program := "qxb6601661amods", sum := "9ae1998208dfa3005270fe81f8bafef477dbbbff0a6ffde7c7dff4f4bb140769", func := "example.com/credential-pool/credential-pool/zzlaws_root_b1.FnIsDigitsAcceptsEveryDecimalNumeral", spec := "fnIsDigitsAcceptsEveryDecimalNumeral", make := .lifted ["publicsums"], apart := false }
def FnIsDigitsAcceptsEveryDecimalNumeralSaid : Prop := fnIsDigitsAcceptsEveryDecimalNumeralRow.holds Trym.pinned (OpenSpec.ofChange fnIsDigitsAcceptsEveryDecimalNumeralSpec)

/-- ITS FALSE NEIGHBOUR: 'it returns false'. Refute it at one input. -/
def fnIsDigitsAcceptsEveryDecimalNumeralWrong : ChangeSpec := { name := "fnIsDigitsAcceptsEveryDecimalNumeral", fn := fun _ => fun
  | [d] => { results := [.lit (.bool false)], args := [d] }
  | _ => none }
def FnIsDigitsAcceptsEveryDecimalNumeralWrongFalsely : Prop := fnIsDigitsAcceptsEveryDecimalNumeralRow.holds Trym.pinned (OpenSpec.ofChange fnIsDigitsAcceptsEveryDecimalNumeralWrong)

/-- 'zzlaws_root_b1.FnIndexEitherFirstOfEither': WHATEVER THE INPUT: true; the input reads as it did. -/
def fnIndexEitherFirstOfEitherSpec : ChangeSpec := { name := "fnIndexEitherFirstOfEither", fn := fun _ => fun
  | [d1, d2, d3] => { results := [.lit (.bool true)], args := [d1, d2, d3] }
  | _ => none }
def fnIndexEitherFirstOfEitherRow : OpenClaim := { program := "qxb6601661amods", sum := "9ae1998208dfa3005270fe81f8bafef477dbbbff0a6ffde7c7dff4f4bb140769", func := "example.com/credential-pool/credential-pool/zzlaws_root_b1.FnIndexEitherFirstOfEither", spec := "fnIndexEitherFirstOfEither", inPlace := ["internal/bytealg.IndexByte"], make := .lifted ["publicsums"], apart := false }
def FnIndexEitherFirstOfEitherSaid : Prop := fnIndexEitherFirstOfEitherRow.holds Trym.pinned (OpenSpec.ofChange fnIndexEitherFirstOfEitherSpec)

/-- ITS FALSE NEIGHBOUR: 'it returns false'. Refute it at one input. -/
def fnIndexEitherFirstOfEitherWrong : ChangeSpec := { name := "fnIndexEitherFirstOfEither", fn := fun _ => fun
  | [d1, d2, d3] => { results := [.lit (.bool false)], args := [d1, d2, d3] }
  | _ => none }
def FnIndexEitherFirstOfEitherWrongFalsely : Prop := fnIndexEitherFirstOfEitherRow.holds Trym.pinned (OpenSpec.ofChange fnIndexEitherFirstOfEitherWrong)

/-- 'zzlaws_root_b1.FnIndexEitherOrderFree': WHATEVER THE INPUT: true; the input reads as it did. -/
def fnIndexEitherOrderFreeSpec : ChangeSpec := { name := "fnIndexEitherOrderFree", fn := fun _ => fun
  | [d1, d2, d3] => { results := [.lit (.bool true)], args := [d1, d2, d3] }
  | _ => none }
def fnIndexEitherOrderFreeRow : OpenClaim := { program := "qxb6601661amods", sum := "9ae1998208dfa3005270fe81f8bafef477dbbbff0a6ffde7c7dff4f4bb140769", func := "example.com/credential-pool/credential-pool/zzlaws_root_b1.FnIndexEitherOrderFree", spec := "fnIndexEitherOrderFree", inPlace := ["internal/bytealg.IndexByte"], make := .lifted ["publicsums"], apart := false }
def FnIndexEitherOrderFreeSaid : Prop := fnIndexEitherOrderFreeRow.holds Trym.pinned (OpenSpec.ofChange fnIndexEitherOrderFreeSpec)

/-- ITS FALSE NEIGHBOUR: 'it returns false'. Refute it at one input. -/
def fnIndexEitherOrderFreeWrong : ChangeSpec := { name := "fnIndexEitherOrderFree", fn := fun _ => fun
  | [d1, d2, d3] => { results := [.lit (.bool false)], args := [d1, d2, d3] }
  | _ => none }
def FnIndexEitherOrderFreeWrongFalsely : Prop := fnIndexEitherOrderFreeRow.holds Trym.pinned (OpenSpec.ofChange fnIndexEitherOrderFreeWrong)

/-- 'zzlaws_root_b1.FnIndexEitherEarlierOfSingleSearches': WHATEVER THE INPUT: true; the input reads as it did. -/
def fnIndexEitherEarlierOfSingleSearchesSpec : ChangeSpec := { name := "fnIndexEitherEarlierOfSingleSearches", fn := fun _ => fun
  | [d1, d2, d3] => { results := [.lit (.bool true)], args := [d1, d2, d3] }
  | _ => none }
def fnIndexEitherEarlierOfSingleSearchesRow : OpenClaim := { program := "qxb6601661amods", sum := "9ae1998208dfa3005270fe81f8bafef477dbbbff0a6ffde7c7dff4f4bb140769", func := "example.com/credential-pool/credential-pool/zzlaws_root_b1.FnIndexEitherEarlierOfSingleSearches", spec := "fnIndexEitherEarlierOfSingleSearches", inPlace := ["internal/bytealg.IndexByte"], make := .lifted ["publicsums"], apart := false }
def FnIndexEitherEarlierOfSingleSearchesSaid : Prop := fnIndexEitherEarlierOfSingleSearchesRow.holds Trym.pinned (OpenSpec.ofChange fnIndexEitherEarlierOfSingleSearchesSpec)

/-- ITS FALSE NEIGHBOUR: 'it returns false'. Refute it at one input. -/
def fnIndexEitherEarlierOfSingleSearchesWrong : ChangeSpec := { name := "fnIndexEitherEarlierOfSingleSearches", fn := fun _ => fun
  | [d1, d2, d3] => { results := [.lit (.bool false)], args := [d1, d2, d3] }
  | _ => none }
def FnIndexEitherEarlierOfSingleSearchesWrongFalsely : Prop := fnIndexEitherEarlierOfSingleSearchesRow.holds Trym.pinned (OpenSpec.ofChange fnIndexEitherEarlierOfSingleSearchesWrong)

end Rows
end Go.Proofs.Qxb6601661aMods
