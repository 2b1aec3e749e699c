/-
  No cell of these rows narrows 'for every input' (looked for: loops, veiled, ifaces, maps, wideKeys, modest, calm, conditions, laid).
  DERIVED. THE GIVEN ROWS OF THIS SEAT. 3 by the template 'for every input the law returns true; each argument reads behind the call as it read before'; 0 by the template 'total and deterministic' (their statements: Qxb6602006aModsTotals.lean).
  GIVEN WITH THE SEED: the statements are not yours to turn. If you find one false, say at which input.
  Laid BY PROGRAM, IN A SANDBOX (cutbox-rows.mjs): the forced cells as the released guide's own fill.sh prints them over the translation a92b606199d3a42c… (all of the seat's roots in one cut). By AI agents, Wed Nov 11 2026. No macro, syntax, notation, axiom, sorry.
-/
import Derived.Test.Qxb6602006aModsChecked
import GoSem.Claim
import GoSem.ClaimJoined
import GoSem.ClaimMapViews
import Derived.JoinedTies
import Derived.KernelRfl
namespace Go.Proofs.Qxb6602006aMods
/- THE CELL 'sum', in the pinned program and in every row, IS THE sha256 OF THE DUMP (.gsa) THAT Qxb6602006aModsProg.lean LOADS. Nothing in Lean hashes anything: it is a label: what it is worth is what the hold of that sum in a sandbox is worth. -/
noncomputable def Trym.pinned : Pinned := { name := "qxb6602006amods", sum := "a92b606199d3a42cb3148bd4c9e7de6f4f762e59c8ce4ec173663cd75cd5f3e6", checked := Trym.checked }
namespace Rows
def none {H : Type} : Left H := { results := [], args := [] }

/-- 'zzlaws_internal_store_b1.FnNameKeyIsReversedNameWithoutDigits': WHATEVER THE INPUT: true; the input reads as it did. -/
def fnNameKeyIsReversedNameWithoutDigitsSpec : ChangeSpec := { name := "fnNameKeyIsReversedNameWithoutDigits", fn := fun _ => fun
  | [d] => { results := [.lit (.bool true)], args := [d] }
  | _ => none }
def fnNameKeyIsReversedNameWithoutDigitsRow : OpenClaim := { program := "qxb6602006amods", sum := "a92b606199d3a42cb3148bd4c9e7de6f4f762e59c8ce4ec173663cd75cd5f3e6", func := "example.com/loamkeep/loamkeep/zzlaws_internal_store_b1.FnNameKeyIsReversedNameWithoutDigits", spec := "fnNameKeyIsReversedNameWithoutDigits", make := .lifted ["publicsums"], apart := false }
def FnNameKeyIsReversedNameWithoutDigitsSaid : Prop := fnNameKeyIsReversedNameWithoutDigitsRow.holds Trym.pinned (OpenSpec.ofChange fnNameKeyIsReversedNameWithoutDigitsSpec)

/-- ITS FALSE NEIGHBOUR: 'it returns false'. Refute it at one input. -/
def fnNameKeyIsReversedNameWithoutDigitsWrong : ChangeSpec := { name := "fnNameKeyIsReversedNameWithoutDigits", fn := fun _ => fun
  | [d] => { results := [.lit (.bool false)], args := [d] }
  | _ => none }
def FnNameKeyIsReversedNameWithoutDigitsWrongFalsely : Prop := fnNameKeyIsReversedNameWithoutDigitsRow.holds Trym.pinned (OpenSpec.ofChange fnNameKeyIsReversedNameWithoutDigitsWrong)

/-- 'zzlaws_internal_store_b1.FnNameKeyReversesConcatenation': WHATEVER THE INPUT: true; the input reads as it did. -/
def fnNameKeyReversesConcatenationSpec : ChangeSpec := { name := "fnNameKeyReversesConcatenation", fn := fun _ => fun
  | [d1, d2] => { results := [.lit (.bool true)], args := [d1, d2] }
  | _ => none }
def fnNameKeyReversesConcatenationRow : OpenClaim := { program := "qxb6602006amods", sum := "a92b606199d3a42cb3148bd4c9e7de6f4f762e59c8ce4ec173663cd75cd5f3e6", func := "example.com/loamkeep/loamkeep/zzlaws_internal_store_b1.FnNameKeyReversesConcatenation", spec := "fnNameKeyReversesConcatenation", make := .lifted ["publicsums"], apart := false }
def FnNameKeyReversesConcatenationSaid : Prop := fnNameKeyReversesConcatenationRow.holds Trym.pinned (OpenSpec.ofChange fnNameKeyReversesConcatenationSpec)

/-- ITS FALSE NEIGHBOUR: 'it returns false'. Refute it at one input. -/
def fnNameKeyReversesConcatenationWrong : ChangeSpec := { name := "fnNameKeyReversesConcatenation", fn := fun _ => fun
  | [d1, d2] => { results := [.lit (.bool false)], args := [d1, d2] }
  | _ => none }
def FnNameKeyReversesConcatenationWrongFalsely : Prop := fnNameKeyReversesConcatenationRow.holds Trym.pinned (OpenSpec.ofChange fnNameKeyReversesConcatenationWrong)

/-- 'zzlaws_internal_store_b1.FnNameKeyInsertedByte': WHATEVER THE INPUT: true; the input reads as it did. -/
def fnNameKeyInsertedByteSpec : ChangeSpec := { name := "fnNameKeyInsertedByte", fn := fun _ => fun
  | [d1, d2, d3] => { results := [.lit (.bool true)], args := [d1, d2, d3] }
  | _ => none }
def fnNameKeyInsertedByteRow : OpenClaim := { program := "qxb6602006amods", sum := "a92b606199d3a42cb3148bd4c9e7de6f4f762e59c8ce4ec173663cd75cd5f3e6", func := "example.com/loamkeep/loamkeep/zzlaws_internal_store_b1.FnNameKeyInsertedByte", spec := "fnNameKeyInsertedByte", make := .lifted ["publicsums"], apart := false }
def FnNameKeyInsertedByteSaid : Prop := fnNameKeyInsertedByteRow.holds Trym.pinned (OpenSpec.ofChange fnNameKeyInsertedByteSpec)

/-- ITS FALSE NEIGHBOUR: 'it returns false'. Refute it at one input. -/
def fnNameKeyInsertedByteWrong : ChangeSpec := { name := "fnNameKeyInsertedByte", fn := fun _ => fun
  | [d1, d2, d3] => { results := [.lit (.bool false)], args := [d1, d2, d3] }
  | _ => none }
def FnNameKeyInsertedByteWrongFalsely : Prop := fnNameKeyInsertedByteRow.holds Trym.pinned (OpenSpec.ofChange fnNameKeyInsertedByteWrong)

end Rows
end Go.Proofs.Qxb6602006aMods
