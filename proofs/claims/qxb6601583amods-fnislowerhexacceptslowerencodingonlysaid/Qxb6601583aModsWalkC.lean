import Derived.Test.Qxb6601583aModsWalkB
import Derived.Laws.BytesArg
namespace Go.Proofs.Qxb6601583aMods
open Go.RowKit

theorem Trym.info5 : (Trym.prog.info? 5).map (fun i => (i.zero, i.size, i.bytes)) = some (some (.int .u8 0), 1, 1) := by kernel_rfl

theorem zzBytes_small (a : Option Addr) (n c : Nat) (w : World) (hn : n ≤ 1048576) :
    Calls Trym.prog 7 #[.slice a n c] w fun e w' => e = .returned (.bool true) ∧ w' = w := by
  have h1 : ¬ (1048576 : Int) < n := by omega
  go_enter Trym.func7, Trym.ntmps7
  go_wp2
  go_ret
  exact ⟨rfl, rfl⟩
theorem zzBytes_great (a : Option Addr) (n c : Nat) (w : World) (hn : 1048576 < n) :
    Calls Trym.prog 7 #[.slice a n c] w fun e w' => e = .returned (.bool false) ∧ w' = w := by
  have h1 : (1048576 : Int) < n := by omega
  go_enter Trym.func7, Trym.ntmps7
  go_wp2
  go_ret
  exact ⟨rfl, rfl⟩

theorem below_cell {w w' : World} (h : Below w.heap.size w w') {p : Addr} {v : Value} (hc : w.cell? p = some v) : w'.cell? p = some v :=
  (h.cell (World.block_lt_of_cell? w p hc)).trans hc

theorem set_at {xs : List Value} {k n : Nat} {zs : List Int} (hx : xs.length = n) (hk : k < n) (h : ∀ j, j < k → xs[j]? = some (.int .u8 (zs.getD j 0))) :
    ∀ j, j < k + 1 → (xs.set k (.int .u8 (zs.getD k 0)))[j]? = some (.int .u8 (zs.getD j 0)) := by
  intro j hj
  rw [List.getElem?_set]
  by_cases e : k = j
  · subst e; simp [hx, hk]
  · rw [if_neg e]; exact h j (by omega)

set_option maxHeartbeats 400000 in
theorem clone_some (x : Addr) (n c : Nat) (zs : List Int) (w : World) (hn : n ≤ 1048576) (hr : RowAt w (some x) n zs) :
    Calls Trym.prog 8 #[.slice (some x) n c] w fun e w' => e = .returned (.slice (some ⟨w.heap.size, 0, none⟩) n n) ∧ RowAt w' (some ⟨w.heap.size, 0, none⟩) n zs ∧ Below w.heap.size w w' := by
  obtain ⟨hlen0, hc, hb⟩ := hr
  have hlen : Hid (zs.length = n) := hlen0
  clear hlen0
  have q24 : ∀ (w : World) (a : Option Addr) (n c n' c' : Nat), (binOp .eql 24 (.slice a n c) (.slice none n' c')).run Trym.prog w = .ok (.bool a.isNone) w := fun w a n c n' c' => Lib.run_eql_slice_nil w _ _ a n c n' c' Trym.underlying24
  obtain ⟨i0, hi, hz0, hz1, hz2⟩ := info_parts Trym.info5
  go_enter Trym.func8, Trym.ntmps8
  go_wp2_with (first | (at_make; refine wpList_make_full _ rfl _ _ 24 rfl w.heap.size 5 i0 (.int .u8 0) 1 Trym.underlying24 hi hz0 hz1 _ _ _ _ n rfl rfl rfl rfl (by rw [hz2]; omega) (by unfold maxLen; omega) (Nat.le_refl _) ?_))
  intro w1 hown hgrow
  have hb1 : Below w.heap.size w w1 := (Below.refl _ w).grown hgrow (Nat.le_refl _) (by simp)
  clear hgrow hi hz0 hz1 hz2
  go_wp2
  go_loopw [4] (fun i wr => ∃ (k : Nat) (xs : List Value), k ≤ n ∧ i = .int .i64 k ∧ xs.length = n ∧ Hid (∀ j, j < k → xs[j]? = some (.int .u8 (zs.getD j 0))) ∧ wr.ownsRow w.heap.size 5 1 (.slice (some ⟨w.heap.size, 0, none⟩) n n) n xs ∧ Below w.heap.size w wr) (fun i _ => n - (intOf i).toNat)
  case atStart =>
    exact ⟨0, _, Nat.zero_le _, rfl, by simpa using hown.1, fun j hj => absurd hj (Nat.not_lt_zero _), hown, hb1⟩
  case round =>
    clear hown hb1
    obtain ⟨k, xs, hk, rfl, hxl, hxs, hown, hbl⟩ := hrel
    by_cases hlt : k < n
    · obtain ⟨b, off, hxx, hcc⟩ := hc (by omega)
      cases hxx
      have hck := below_cell hbl (hcc k hlt)
      have hfz := hown.frozenAt k
      have hce : ∃ v, wr.cell? ⟨w.heap.size, k, none⟩ = some v := by
        rw [hown.cellAt k (by omega)]; exact ⟨_, List.getElem?_eq_getElem (by omega)⟩
      obtain ⟨v0, hce⟩ := hce
      have hxs' := set_at hxl hlt hxs.out
      have hst := hown.stored k (.int .u8 (zs.getD k 0))
      have HS : Hid ((wr.setCell ⟨w.heap.size, k, none⟩ (.int .u8 (zs.getD k 0))).ownsRow w.heap.size 5 1 (.slice (some ⟨w.heap.size, 0, none⟩) n n) n (xs.set k (.int .u8 (zs.getD k 0)))) := hst.1
      have HX : Hid (∀ j, j < k + 1 → (xs.set k (.int .u8 (zs.getD k 0)))[j]? = some (.int .u8 (zs.getD j 0))) := hxs'
      clear hst hxs' hcc hc hb
      generalize hze : zs.getD k 0 = z at *
      go_wp2
      go_roundw
      case rel => exact ⟨k + 1, _, by omega, by go_num, by simpa using hxl, HX, HS, hbl.setCell (Nat.le_refl _) _⟩
      case measure => simp [intOf]; omega
    · have hkn : k = n := by omega
      have hR : RowAt wr (some ⟨w.heap.size, 0, none⟩) n zs := by
        refine ⟨hlen.out, fun _ => ⟨_, _, rfl, fun j hj => ?_⟩, hb⟩
        rw [Nat.zero_add, hown.cellAt j (by omega)]
        exact hxs.out j (by omega)
      clear hkn
      go_wp2
      go_ret
      exact ⟨rfl, hR, hbl⟩

set_option maxHeartbeats 400000 in
theorem clone_nil (w : World) :
    Calls Trym.prog 8 #[.slice none 0 0] w fun e w' => e = .returned (.slice none 0 0) ∧ w' = w := by
  have q24 : ∀ (w : World) (a : Option Addr) (n c n' c' : Nat), (binOp .eql 24 (.slice a n c) (.slice none n' c')).run Trym.prog w = .ok (.bool a.isNone) w := fun w a n c n' c' => Lib.run_eql_slice_nil w _ _ a n c n' c' Trym.underlying24
  go_enter Trym.func8, Trym.ntmps8
  go_wp2
  go_ret
  exact ⟨rfl, rfl⟩
end Go.Proofs.Qxb6601583aMods
