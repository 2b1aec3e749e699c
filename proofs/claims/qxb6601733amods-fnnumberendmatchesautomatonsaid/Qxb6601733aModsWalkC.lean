import Derived.Test.Qxb6601733aModsWalkB
import Derived.Test.Qxb6601733aModsBounds
namespace Go.Proofs.Qxb6601733aMods
open Go.RowKit

/-- what a reader is told of a slice of bytes: where it has an element its cells lie in one row, and they hold the numbers 'zs' -/
def RowAt (w : World) (a : Option Addr) (n : Nat) (zs : List Int) : Prop :=
  zs.length = n ∧ (0 < n → ∃ b off, a = some ⟨b, off, none⟩ ∧ ∀ k, k < n → w.cell? ⟨b, off + k, none⟩ = some (.int .u8 (zs.getD k 0))) ∧ ∀ k, 0 ≤ zs.getD k 0 ∧ zs.getD k 0 ≤ 255

theorem Trym.info5 : (Trym.prog.info? 5).map (fun i => (i.zero, i.size, i.bytes)) = some (some (.int .u8 0), 1, 1) := by kernel_rfl

theorem zzBytesA_small (a : Option Addr) (n c : Nat) (i : Int) (w : World) (hn : n ≤ 1048576) :
    Calls Trym.prog 5 #[.slice a n c, .int .i64 i] w fun e w' => e = .returned (.bool true) ∧ w' = w := by
  have h1 : ¬ (1048576 : Int) < n := by omega
  go_enter Trym.func5, Trym.ntmps5
  go_wp2
  go_ret
  exact ⟨rfl, rfl⟩
theorem zzBytesA_great (a : Option Addr) (n c : Nat) (i : Int) (w : World) (hn : 1048576 < n) :
    Calls Trym.prog 5 #[.slice a n c, .int .i64 i] w fun e w' => e = .returned (.bool false) ∧ w' = w := by
  have h1 : (1048576 : Int) < n := by omega
  go_enter Trym.func5, Trym.ntmps5
  go_wp2
  go_ret
  exact ⟨rfl, rfl⟩

theorem zzBytesB_small (a : Option Addr) (n c : Nat) (i : Int) (w : World) (hn : n ≤ 1048576) :
    Calls Trym.prog 9 #[.slice a n c, .int .i64 i] w fun e w' => e = .returned (.bool true) ∧ w' = w := by
  have h1 : ¬ (1048576 : Int) < n := by omega
  go_enter Trym.func9, Trym.ntmps9
  go_wp2
  go_ret
  exact ⟨rfl, rfl⟩
theorem zzBytesB_great (a : Option Addr) (n c : Nat) (i : Int) (w : World) (hn : 1048576 < n) :
    Calls Trym.prog 9 #[.slice a n c, .int .i64 i] w fun e w' => e = .returned (.bool false) ∧ w' = w := by
  have h1 : (1048576 : Int) < n := by omega
  go_enter Trym.func9, Trym.ntmps9
  go_wp2
  go_ret
  exact ⟨rfl, rfl⟩

theorem below_cell {w w' : World} (h : Below w.heap.size w w') {p : Addr} {v : Value} (hc : w.cell? p = some v) : w'.cell? p = some v :=
  (h.cell (World.block_lt_of_cell? w p hc)).trans hc

theorem set_at {xs : List Value} {k n : Nat} {zs : List Int} (hx : xs.length = n) (hk : k < n) (h : ∀ j, j < k → xs[j]? = some (.int .u8 (zs.getD j 0))) :
    ∀ j, j < k + 1 → (xs.set k (.int .u8 (zs.getD k 0)))[j]? = some (.int .u8 (zs.getD j 0)) := by
  intro j hj
  rw [List.getElem?_set]
  by_cases e : k = j
  · subst e; simp [hx, hk]
  · rw [if_neg e]; exact h j (by omega)

set_option maxHeartbeats 400000 in
theorem clone_some (x : Addr) (n c : Nat) (zs : List Int) (w : World) (hn : n ≤ 1048576) (hr : RowAt w (some x) n zs) :
    Calls Trym.prog 6 #[.slice (some x) n c] w fun e w' => e = .returned (.slice (some ⟨w.heap.size, 0, none⟩) n n) ∧ RowAt w' (some ⟨w.heap.size, 0, none⟩) n zs ∧ Below w.heap.size w w' := by
  obtain ⟨hlen0, hc, hb⟩ := hr
  have hlen : Hid (zs.length = n) := hlen0
  clear hlen0
  have q22 : ∀ (w : World) (a : Option Addr) (n c n' c' : Nat), (binOp .eql 22 (.slice a n c) (.slice none n' c')).run Trym.prog w = .ok (.bool a.isNone) w := fun w a n c n' c' => Lib.run_eql_slice_nil w _ _ a n c n' c' Trym.underlying22
  obtain ⟨i0, hi, hz0, hz1, hz2⟩ := info_parts Trym.info5
  go_enter Trym.func6, Trym.ntmps6
  go_wp2_with (first | (at_make; refine wpList_make_full _ rfl _ _ 22 rfl w.heap.size 5 i0 (.int .u8 0) 1 Trym.underlying22 hi hz0 hz1 _ _ _ _ n rfl rfl rfl rfl (by rw [hz2]; omega) (by unfold maxLen; omega) (Nat.le_refl _) ?_))
  intro w1 hown hgrow
  have hb1 : Below w.heap.size w w1 := (Below.refl _ w).grown hgrow (Nat.le_refl _) (by simp)
  clear hgrow hi hz0 hz1 hz2
  go_wp2
  go_loopw [4] (fun i wr => ∃ (k : Nat) (xs : List Value), k ≤ n ∧ i = .int .i64 k ∧ xs.length = n ∧ Hid (∀ j, j < k → xs[j]? = some (.int .u8 (zs.getD j 0))) ∧ wr.ownsRow w.heap.size 5 1 (.slice (some ⟨w.heap.size, 0, none⟩) n n) n xs ∧ Below w.heap.size w wr) (fun i _ => n - (intOf i).toNat)
  case atStart =>
    exact ⟨0, _, Nat.zero_le _, rfl, by simpa using hown.1, fun j hj => absurd hj (Nat.not_lt_zero _), hown, hb1⟩
  case round =>
    clear hown hb1
    obtain ⟨k, xs, hk, rfl, hxl, hxs, hown, hbl⟩ := hrel
    by_cases hlt : k < n
    · obtain ⟨b, off, hxx, hcc⟩ := hc (by omega)
      cases hxx
      have hck := below_cell hbl (hcc k hlt)
      have hfz := hown.frozenAt k
      have hce : ∃ v, wr.cell? ⟨w.heap.size, k, none⟩ = some v := by
        rw [hown.cellAt k (by omega)]; exact ⟨_, List.getElem?_eq_getElem (by omega)⟩
      obtain ⟨v0, hce⟩ := hce
      have hxs' := set_at hxl hlt hxs.out
      have hst := hown.stored k (.int .u8 (zs.getD k 0))
      have HS : Hid ((wr.setCell ⟨w.heap.size, k, none⟩ (.int .u8 (zs.getD k 0))).ownsRow w.heap.size 5 1 (.slice (some ⟨w.heap.size, 0, none⟩) n n) n (xs.set k (.int .u8 (zs.getD k 0)))) := hst.1
      have HX : Hid (∀ j, j < k + 1 → (xs.set k (.int .u8 (zs.getD k 0)))[j]? = some (.int .u8 (zs.getD j 0))) := hxs'
      clear hst hxs' hcc hc hb
      generalize hze : zs.getD k 0 = z at *
      go_wp2
      go_roundw
      case rel => exact ⟨k + 1, _, by omega, by go_num, by simpa using hxl, HX, HS, hbl.setCell (Nat.le_refl _) _⟩
      case measure => simp [intOf]; omega
    · have hkn : k = n := by omega
      have hR : RowAt wr (some ⟨w.heap.size, 0, none⟩) n zs := by
        refine ⟨hlen.out, fun _ => ⟨_, _, rfl, fun j hj => ?_⟩, hb⟩
        rw [Nat.zero_add, hown.cellAt j (by omega)]
        exact hxs.out j (by omega)
      clear hkn
      go_wp2
      go_ret
      exact ⟨rfl, hR, hbl⟩

theorem zzNumberEnd_any (b off n c i : Nat) (zs : List Int) (w : World) (hn : n ≤ 1048576) (hi : i < n) (hlen : zs.length = n)
    (hcell : ∀ j, j < n → w.cell? ⟨b, off + j, none⟩ = some (.int .u8 (zs.getD j 0))) (K R : Int) (hK : K = (i : Int)) (hR : R = ans i (numE (zs.drop i))) :
    Calls Trym.prog 7 #[.slice (some ⟨b, off, none⟩) n c, .int .i64 K] w fun e w' => e = .returned (.int .i64 R) ∧ w' = w := by
  subst hK; subst hR
  have h := numberEnd_any b off n c i zs w hn hi hlen hcell
  clear hlen
  clear hcell
  go_enter Trym.func7, Trym.ntmps7
  go_wp2_with (go_at_call 10; refine h.mono ?_; rintro e w' ⟨rfl, rfl⟩)
  go_ret
  exact ⟨rfl, rfl⟩

theorem rowAt_of (x : Addr) (len0 cap0 : Nat) (z0 : List Int) (w : World) (hl : len0 ≤ cap0) (hz : z0.length = cap0)
    (hcell : ∀ i, i < z0.length → w.cell? (x.add i) = some (.int .u8 (z0.getD i 0))) (hwz : ∀ n ∈ z0, (Lit.int .u8 n).wf = true) :
    RowAt w (some x) len0 (z0.take len0) := by
  have hg : ∀ k, k < len0 → (z0.take len0).getD k 0 = z0.getD k 0 := by
    intro k hk
    simp [List.getD_eq_getElem?_getD, hk]
  refine ⟨by simp; omega, fun h0 => ?_, fun k => ?_⟩
  · obtain ⟨b, off, rfl, hc⟩ := ints_at hcell (by omega)
    exact ⟨b, off, rfl, fun k hk => by rw [hg k hk]; exact hc k (by omega)⟩
  · by_cases hk : k < len0
    · rw [hg k hk]
      have hkz : k < z0.length := by omega
      have e : z0.getD k 0 = z0[k] := by simp [List.getD_eq_getElem?_getD, hkz]
      rw [e]
      exact bounds_u8 (hwz _ (List.getElem_mem hkz))
    · have : (z0.take len0).getD k 0 = 0 := by
        simp [List.getD_eq_getElem?_getD, List.getElem?_take, hk]
      rw [this]; omega
end Go.Proofs.Qxb6601733aMods
