/- The shell given with the seat, its walk filled in. -/
import Derived.Test.Qxb6601583aModsRows
import Derived.Test.Qxb6601583aModsPlain
import Derived.WalkKit
import Derived.ProofKit
import Derived.OpenShut
import Derived.ShutString
import Derived.ChangeOld
import Derived.Below
namespace Go.Proofs.Qxb6601583aMods.fnIsLowerHexAcceptsLowerEncodingOnly
open Go.ChangeShapes Go.WideShapes Go.ChangeAt Go.RowKit
open Go.ChangeMaps (open_string shut_string)
set_option linter.unusedVariables false

theorem own : ownKnob Trym.prog.godebug = none := by kernel_rfl
theorem laidOut : laidOutB Trym.prog = true := by kernel_rfl

/-- WHAT THE WALK IS TOLD OF A SLICE OF INTEGERS THAT CAME IN: it is nil; or it leads to a row of 'cap' cells, the numbers 'zs' (the first 'len' are its elements, the rest its spare room), each fitting its kind. -/
def IsRow (k : IntKind) (w : World) (a : Option Addr) (len cap : Nat) (zs : List Int) : Prop :=
  (a = none ∧ len = 0 ∧ cap = 0 ∧ zs = []) ∨
  ∃ x, a = some x ∧ len ≤ cap ∧ cap ≤ maxLen ∧ zs.length = cap ∧ (∀ i, i < zs.length → w.cell? (x.add i) = some (.int k (zs.getD i 0))) ∧ ∀ n ∈ zs, (Lit.int k n).wf = true

/-! ### STEP 1: THE WALK: the Go text returns true, AND WRITES NOTHING THAT WAS THERE: 'Below w.heap.size w w'' (Derived/Below.lean: '.refl', '.alloc', '.drew', '.setCell' at a new block, '.trans'). Open each 'IsRow' by 'rcases' AHEAD of 'go_enter'; part every test ahead of the walk. -/
theorem rowAt_of (x : Addr) (len0 cap0 : Nat) (z0 : List Int) (w : World) (hl : len0 ≤ cap0) (hz : z0.length = cap0)
    (hcell : ∀ i, i < z0.length → w.cell? (x.add i) = some (.int .u8 (z0.getD i 0))) (hwz : ∀ n ∈ z0, (Lit.int .u8 n).wf = true) :
    RowAt w (some x) len0 (z0.take len0) := by
  have hg : ∀ k, k < len0 → (z0.take len0).getD k 0 = z0.getD k 0 := by
    intro k hk
    simp [List.getD_eq_getElem?_getD, hk]
  refine ⟨by simp; omega, fun h0 => ?_, fun k => ?_⟩
  · obtain ⟨b, off, rfl, hc⟩ := ints_at hcell (by omega)
    exact ⟨b, off, rfl, fun k hk => by rw [hg k hk]; exact hc k (by omega)⟩
  · by_cases hk : k < len0
    · rw [hg k hk]
      have hkz : k < z0.length := by omega
      have e : z0.getD k 0 = z0[k] := by simp [List.getD_eq_getElem?_getD, hkz]
      rw [e]
      exact bounds_u8 (hwz _ (List.getElem_mem hkz))
    · have : (z0.take len0).getD k 0 = 0 := by
        simp [List.getD_eq_getElem?_getD, List.getElem?_take, hk]
      rw [this]; omega

theorem enc_size (D : ByteArray) (zs : List Int) {n : Nat} (hn : n ≤ 262144) (h : zs.length = n) : (strOfNums (encL D zs)).size ≤ maxLen := by
  rw [strOfNums_size]; simp [encL, h, maxLen]; omega

/-- the walk behind the clone: whatever slice it handed back -/
theorem rowAt_below {w w' : World} {a : Option Addr} {n : Nat} {zs : List Int} (h : RowAt w a n zs) (hb : Below w.heap.size w w') : RowAt w' a n zs :=
  ⟨h.1, fun h0 => by obtain ⟨b, off, e, hc⟩ := h.2.1 h0; exact ⟨b, off, e, fun k hk => below_cell hb (hc k hk)⟩, h.2.2⟩

theorem walk (a0 : Option Addr) (len0 cap0 : Nat) (z0 : List Int) (w : World) (w0 : IsRow .u8 w a0 len0 cap0 z0) :
    Calls Trym.prog 4 #[.slice a0 len0 cap0] w fun e w' => e = .returned (.bool true) ∧ Below w.heap.size w w' := by
  by_cases hg : 1048576 < len0
  · have hg' := hg
    go_enter Trym.func4, Trym.ntmps4
    go_wp2_with (go_at_call 7; refine (zzBytes_great _ _ _ _ hg').mono ?_; rintro e w' ⟨rfl, rfl⟩)
    go_ret
    exact ⟨rfl, Below.refl _ _⟩
  have hg : len0 ≤ 1048576 := by omega
  by_cases hg2 : 262144 < len0
  · go_enter Trym.func4, Trym.ntmps4
    go_wp2_with (go_at_call 7; refine (zzBytes_small _ _ _ _ hg).mono ?_; rintro e w' ⟨rfl, rfl⟩)
    go_ret
    exact ⟨rfl, Below.refl _ _⟩
  have hg2 : len0 ≤ 262144 := by omega
  have hcl : ∃ a' zs, Hid (Calls Trym.prog 8 #[.slice a0 len0 cap0] w fun e w' => ∃ c', e = .returned (.slice a' len0 c') ∧ RowAt w' a' len0 zs ∧ Below w.heap.size w w') := by
    rcases w0 with ⟨rfl, rfl, rfl, rfl⟩ | ⟨x, rfl, hl, hm, hz, hcell, hwz⟩
    · refine ⟨none, [], (clone_nil w).mono ?_⟩
      rintro e w' ⟨rfl, rfl⟩
      exact ⟨0, rfl, ⟨rfl, fun h => absurd h (by omega), fun k => by simp⟩, Below.refl _ _⟩
    · refine ⟨some ⟨w.heap.size, 0, none⟩, z0.take len0, (clone_some x len0 cap0 _ w hg (rowAt_of x len0 cap0 z0 w hl hz hcell hwz)).mono ?_⟩
      rintro e w' ⟨rfl, h1, h2⟩
      exact ⟨_, rfl, h1, h2⟩
  obtain ⟨a', zs, hcl⟩ := hcl
  clear w0
  go_enter Trym.func4, Trym.ntmps4
  go_wp2_with (first | (go_at_call 7; refine (zzBytes_small _ _ _ _ hg).mono ?_; rintro e w' ⟨rfl, rfl⟩) | (go_at_call 8; refine hcl.out.mono ?_; rintro e w1 ⟨c', rfl, hrow, hb1⟩))
  have hb2 : ∀ k, 0 ≤ zs.getD k 0 ∧ zs.getD k 0 ≤ 255 := hrow.2.2
  refine (hexEncode_any _ _ _ _ zs _ hg2 rfl hrow).mono ?_
  rintro e w2 ⟨rfl, hb3⟩
  have hrow2 := rowAt_below hrow hb3
  go_wp2_with fail
  refine (hexEncode_any _ _ _ _ zs _ hg2 rfl hrow2).mono ?_
  rintro e w3 ⟨rfl, hb4⟩
  have hrow3 := rowAt_below hrow2 hb4
  go_wp2_with fail
  refine (zzIsLowerHex_any _ _ (enc_size _ zs hg2 hrow.1)).mono ?_
  rintro e w' ⟨he, rfl⟩
  obtain rfl : e = .returned (.bool true) := he.trans (ret_bool (low_law zs hb2))
  clear he
  go_wp2_with fail
  refine (zzIsLowerHex_any _ _ (enc_size _ zs hg2 hrow.1)).mono ?_
  rintro e w' ⟨he, rfl⟩
  obtain rfl : e = .returned (.bool (nlB zs)) := he.trans (ret_bool (up_law zs hb2))
  clear he
  go_wp2_with fail
  refine (noLetterNibble_any _ _ _ zs _ hg hrow3).mono ?_
  rintro e w' ⟨rfl, rfl⟩
  go_wp2_with fail
  go_ret
  exact ⟨by simp, hb1.trans ((hb3.mono hb1.size).trans (hb4.mono (Nat.le_trans hb1.size hb3.size)))⟩


/-! ### THE ROW's STEP: WRITTEN OUT: LEAVE IT -/
set_option maxRecDepth 100000 in
theorem lifted (os : Os) (started : os.Started) (H : Type) (enc : TypeId × Value → H) :
    ReturnsInHanded {} Trym.checked os 4 .any (Rows.fnIsLowerHexAcceptsLowerEncodingOnlySpec.pre6 enc Trym.prog Trym.f4 Rows.fnIsLowerHexAcceptsLowerEncodingOnlyRow.domain false) (Rows.fnIsLowerHexAcceptsLowerEncodingOnlySpec.post enc Trym.prog Trym.f4 false true false false) := by
  refine returnsInHanded_of_change (C := Trym.checked) own started (by kernel_rfl) Trym.func4
    (ChangeSpec.witness6 (enc := enc) (C := Trym.checked) false ⟨#[], #[.slice none 0 0], []⟩ 8 (by kernel_rfl) (by kernel_rfl) (by kernel_rfl) (by kernel_rfl)) ?_
  intro W base args ds gs before hval0 hW hcnd _
  have hval : ∀ (j : Nat) t v, Trym.f4.params[j]? = some t → args[j]? = some v → Value.okWide Trym.prog W .any base t v := hval0
  have hW' := hW
  obtain ⟨p, q, hA0, hV, rfl, hfz, hnd⟩ := hW
  have hA : DataW.TrodAll enc Trym.prog W 0 (fun _ => true) true Trym.f4.params.toList args.toList ds p := hA0
  rw [Trym.params4] at hA hval
  obtain ⟨v0, vs0, d0, ds0, p0, q0, hargs, rfl, rfl, h0, r0⟩ := trodAll_cons hA
  obtain ⟨rfl, rfl, rfl⟩ := trodAll_nil r0
  obtain rfl : args = #[v0] := by cases args; simp_all
  obtain ⟨rfl, rfl⟩ := trodVars_none hV
  obtain ⟨a0, len0, cap0, rfl⟩ := okWide_slice Trym.underlying24 (hval 0 24 v0 rfl rfl)
  have k0 := h0
  have lt0 : ∀ x ∈ p0, x.block < W.heap.size := by obtain ⟨m, hm⟩ := k0; exact DataW.trod_lt m _ _ _ hm
  obtain ⟨z0, w0⟩ : ∃ zs, IsRow .u8 W a0 len0 cap0 zs := by
    obtain ⟨fuel, hf⟩ := h0
    rcases open_ints Trym.underlying24 Trym.underlying5 (by kernel_rfl) hf with ⟨hcs, _⟩ | ⟨x, l, c, zs, hcs, _, hl, hm, hz, _, hcell, hwz⟩
    · simp [Value.cells] at hcs
      obtain ⟨rfl, rfl, rfl⟩ := hcs
      exact ⟨[], .inl ⟨rfl, rfl, rfl, rfl⟩⟩
    · simp [Value.cells] at hcs
      obtain ⟨rfl, rfl, rfl⟩ := hcs
      exact ⟨zs, .inr ⟨_, rfl, hl, hm, by simpa using hz, hcell, hwz⟩⟩
  clear hA0 hval0
  refine (walk a0 len0 cap0 z0 W w0).mono fun e W' ⟨he, bel⟩ => ?_
  subst he
  exact ⟨_, rfl, _, _, _, [], _, [], hW', trodAll_mk1 (shut_bool Trym.underlying4 _), (trodAll_cons_mk (Below.trod laidOut (by kernel_rfl) (of_decide_eq_true (by kernel_rfl)) k0 bel lt0) trodAll_mk0), rfl, bel.frame _, fun h => by cases h⟩

theorem over : Rows.fnIsLowerHexAcceptsLowerEncodingOnlyRow.holds Trym.pinned (OpenSpec.ofChange Rows.fnIsLowerHexAcceptsLowerEncodingOnlySpec) :=
  OpenClaim.holds_of_wide 4 Trym.f4 rfl rfl rfl rfl rfl rfl rfl ⟨rfl, rfl, rfl, rfl, rfl⟩ rfl rfl rfl rfl rfl (by kernel_rfl) Trym.func4 (by kernel_rfl)
    (of_decide_eq_true (by kernel_rfl)) (by unfold Func.isWrapper; first | (rw [if_pos (by decide +kernel)]; kernel_rfl) | (rw [if_neg (by decide +kernel)]; exact ⟨rfl, rfl⟩))
    (fun os started H enc _ => lifted os started H enc)

/-- ████ THE STATEMENT ████ -/
theorem proved : Rows.FnIsLowerHexAcceptsLowerEncodingOnlySaid := over
#print axioms proved
end Go.Proofs.Qxb6601583aMods.fnIsLowerHexAcceptsLowerEncodingOnly
