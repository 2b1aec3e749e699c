/- The shell given with the seat, its walk filled in; the world's word is 'Below' in place of 'Grown' (a conversion of a string to bytes marks a new place, so 'Grown' does not hold here). -/
import Derived.Test.Qxb6601661aModsRows
import Derived.Test.Qxb6601661aModsWalkB
import Derived.WalkKit
import Derived.ProofKit
import Derived.OpenShut
import Derived.ShutString
import Derived.ChangeOld
import Derived.Below
namespace Go.Proofs.Qxb6601661aMods.fnIsDigitsAcceptsEveryDecimalNumeral
open Go.ChangeShapes Go.WideShapes Go.ChangeAt Go.RowKit
open Go.ChangeMaps (open_string shut_string)
set_option linter.unusedVariables false      -- a walk need not use every 'w<i>' (that an integer argument fits its kind)

theorem own : ownKnob Trym.prog.godebug = none := by kernel_rfl

theorem walk (a0 : Int) (w0 : (Lit.int .u64 a0).wf = true) (w : World) :
    Calls Trym.prog 4 #[.int .u64 a0] w fun e w' => e = .returned (.bool true) ∧ Below w.heap.size w w' := by
  obtain ⟨h0, h1⟩ := bounds_u64 w0
  go_enter Trym.func4, Trym.ntmps4
  go_wp2_with (go_at_call 10; refine (decimal_any a0 _ h0 h1).mono ?_; rintro e w1 ⟨s, rfl, hs1, hs2, hb1⟩)
  have HS : Hid (digB s.data.toList = true) := hs1
  clear hs1
  refine (zzIsDigits_any _ _ (by omega)).mono ?_
  rintro e w2 ⟨he, hb2⟩
  obtain rfl : e = .returned (.bool true) := he.trans (ret_bool HS.out)
  clear he
  have ha1 := fun W => run_string_add_sum (P := Trym.prog) W (ByteArray.mk #[45]) s (by have : (ByteArray.mk #[45]).size = 1 := rfl; omega)
  have ha2 := fun W => run_string_add_sum (P := Trym.prog) W s (ByteArray.mk #[32]) (by have : (ByteArray.mk #[32]).size = 1 := rfl; omega)
  go_wp2_with fail
  refine (zzIsDigits_any _ _ (by rw [ByteArray.size_append]; have : (ByteArray.mk #[45]).size = 1 := rfl; omega)).mono ?_
  rintro e w3 ⟨he, hb3⟩
  obtain rfl : e = .returned (.bool false) := he.trans (ret_bool (minus_not s))
  clear he
  go_wp2_with fail
  refine (zzIsDigits_any _ _ (by rw [ByteArray.size_append]; have : (ByteArray.mk #[32]).size = 1 := rfl; omega)).mono ?_
  rintro e w4 ⟨he, hb4⟩
  obtain rfl : e = .returned (.bool false) := he.trans (ret_bool (blank_not s))
  clear he
  go_wp2_with fail
  go_ret
  have b1 := hb1.size
  have b2 := hb2.size
  have b3 := hb3.size
  exact ⟨rfl, hb1.trans ((hb2.mono b1).trans ((hb3.mono (by omega)).trans (hb4.mono (by omega))))⟩

/-! ### THE ROW's STEP: WRITTEN OUT: LEAVE IT -/
set_option maxRecDepth 100000 in
theorem lifted (os : Os) (started : os.Started) (H : Type) (enc : TypeId × Value → H) :
    ReturnsInHanded {} Trym.checked os 4 .any (Rows.fnIsDigitsAcceptsEveryDecimalNumeralSpec.pre6 enc Trym.prog Trym.f4 Rows.fnIsDigitsAcceptsEveryDecimalNumeralRow.domain false) (Rows.fnIsDigitsAcceptsEveryDecimalNumeralSpec.post enc Trym.prog Trym.f4 false true false false) := by
  refine returnsInHanded_of_change (C := Trym.checked) own started (by kernel_rfl) Trym.func4
    (ChangeSpec.witness6 (enc := enc) (C := Trym.checked) false ⟨#[], #[.int .u64 0], []⟩ 8 (by kernel_rfl) (by kernel_rfl) (by kernel_rfl) (by kernel_rfl)) ?_
  intro W base args ds gs before hval0 hW hcnd _
  have hval : ∀ (j : Nat) t v, Trym.f4.params[j]? = some t → args[j]? = some v → Value.okWide Trym.prog W .any base t v := hval0
  have hW' := hW
  obtain ⟨p, q, hA0, hV, rfl, hfz, hnd⟩ := hW
  have hA : DataW.TrodAll enc Trym.prog W 0 (fun _ => true) true Trym.f4.params.toList args.toList ds p := hA0
  rw [Trym.params4] at hA hval
  obtain ⟨v0, vs0, d0, ds0, p0, q0, hargs, rfl, rfl, h0, r0⟩ := trodAll_cons hA
  obtain ⟨rfl, rfl, rfl⟩ := trodAll_nil r0
  obtain rfl : args = #[v0] := by cases args; simp_all
  obtain ⟨rfl, rfl⟩ := trodVars_none hV
  obtain ⟨a0, rfl, rfl, rfl, w0⟩ := open_int Trym.underlying24 (hval 0 24 v0 rfl rfl) h0
  clear hA0 hval0
  refine (walk a0 w0 W).mono fun e W' ⟨he, bel⟩ => ?_
  subst he
  exact ⟨_, rfl, _, _, _, [], _, [], hW', trodAll_mk1 (shut_bool Trym.underlying4 _), (trodAll_cons_mk (shut_int Trym.underlying24 w0) trodAll_mk0), rfl, bel.frame _, fun h => by cases h⟩

theorem over : Rows.fnIsDigitsAcceptsEveryDecimalNumeralRow.holds Trym.pinned (OpenSpec.ofChange Rows.fnIsDigitsAcceptsEveryDecimalNumeralSpec) :=
  OpenClaim.holds_of_wide 4 Trym.f4 rfl rfl rfl rfl rfl rfl rfl ⟨rfl, rfl, rfl, rfl, rfl⟩ rfl rfl rfl rfl rfl (by kernel_rfl) Trym.func4 (by kernel_rfl)
    (of_decide_eq_true (by kernel_rfl)) (by unfold Func.isWrapper; first | (rw [if_pos (by decide +kernel)]; kernel_rfl) | (rw [if_neg (by decide +kernel)]; exact ⟨rfl, rfl⟩))
    (fun os started H enc _ => lifted os started H enc)

/-- ████ THE STATEMENT ████ -/
theorem proved : Rows.FnIsDigitsAcceptsEveryDecimalNumeralSaid :=
  over
#print axioms proved
end Go.Proofs.Qxb6601661aMods.fnIsDigitsAcceptsEveryDecimalNumeral
