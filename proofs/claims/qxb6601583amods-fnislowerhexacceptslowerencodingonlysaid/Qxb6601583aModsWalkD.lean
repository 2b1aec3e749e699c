import Derived.Test.Qxb6601583aModsWalkC
namespace Go.Proofs.Qxb6601583aMods
open Go.RowKit

/-- the digit of a nibble -/
def dg (D : ByteArray) (i : Int) : Int := ((D.data.toList.getD i.toNat 0).toNat : Int)
def encAt (D : ByteArray) (zs : List Int) (j : Nat) : Int := if j % 2 = 0 then dg D (zs.getD (j / 2) 0 / 16) else dg D (zs.getD (j / 2) 0 % 16)
def encL (D : ByteArray) (zs : List Int) : List Int := (List.range (2 * zs.length)).map (encAt D zs)

theorem dg_at (D : ByteArray) (i : Nat) (h : i < D.size) : (D[i].toNat : Int) = dg D (i : Int) := by
  unfold dg
  simp only [Int.toNat_natCast, List.getD_eq_getElem?_getD]
  rw [List.getElem?_eq_getElem (by simpa using h)]
  rfl

theorem encL_at (D : ByteArray) (zs : List Int) (j : Nat) (h : j < 2 * zs.length) : (encL D zs).getD j 0 = encAt D zs j := by
  simp [encL, List.getD_eq_getElem?_getD, h]

theorem enc_step {D : ByteArray} {zs : List Int} {xs : List Value} {k n : Nat} (hx : xs.length = 2 * n) (hk : k < n) (h : ∀ j, j < 2 * k → xs[j]? = some (.int .u8 (encAt D zs j))) :
    Hid (∀ j, j < 2 * (k + 1) → ((xs.set (2 * k) (.int .u8 (dg D (zs.getD k 0 / 16)))).set (2 * k + 1) (.int .u8 (dg D (zs.getD k 0 % 16))))[j]? = some (.int .u8 (encAt D zs j))) := by
  intro j hj
  rw [List.getElem?_set]
  by_cases e : 2 * k + 1 = j
  · subst e
    rw [if_pos rfl, if_pos (by simp; omega)]
    have a1 : (2 * k + 1) % 2 = 1 := by omega
    have a2 : (2 * k + 1) / 2 = k := by omega
    simp [encAt, a1, a2]
  · rw [if_neg e, List.getElem?_set]
    by_cases e' : 2 * k = j
    · subst e'
      rw [if_pos rfl, if_pos (by omega)]
      have a1 : (2 * k) % 2 = 0 := by omega
      have a2 : (2 * k) / 2 = k := by omega
      simp [encAt]
    · rw [if_neg e']; exact h j (by omega)

set_option maxHeartbeats 400000 in
theorem hexEncode_any (a : Option Addr) (n c : Nat) (D : ByteArray) (zs : List Int) (w : World) (hn : n ≤ 262144) (hD : D.size = 16) (hr : RowAt w a n zs) :
    Calls Trym.prog 9 #[.slice a n c, .string D] w fun e w' => e = .returned (.string (strOfNums (encL D zs))) ∧ Below w.heap.size w w' := by
  obtain ⟨hlen0, hc, hb⟩ := hr
  have hlen : Hid (zs.length = n) := hlen0
  clear hlen0
  obtain ⟨i0, hi, hz0, hz1, hz2⟩ := info_parts Trym.info5
  go_enter Trym.func9, Trym.ntmps9
  go_wp2_with (first | (at_make; refine wpList_make_full _ rfl _ _ 24 rfl w.heap.size 5 i0 (.int .u8 0) 1 Trym.underlying24 hi hz0 hz1 _ _ _ _ (2 * n) rfl rfl (by omega) (by omega) (by rw [hz2]; omega) (by unfold maxLen; omega) (Nat.le_refl _) ?_))
  intro w1 hown hgrow
  have hb1 : Below w.heap.size w w1 := (Below.refl _ w).grown hgrow (Nat.le_refl _) (by simp)
  clear hgrow hi hz0 hz1 hz2
  go_wp2
  go_loopw [6] (fun i wr => ∃ (k : Nat) (xs : List Value), k ≤ n ∧ i = .int .i64 k ∧ xs.length = 2 * n ∧ Hid (∀ j, j < 2 * k → xs[j]? = some (.int .u8 (encAt D zs j))) ∧ wr.ownsRow w.heap.size 5 1 (.slice (some ⟨w.heap.size, 0, none⟩) (2 * n) (2 * n)) (2 * n) xs ∧ Below w.heap.size w wr) (fun i _ => n - (intOf i).toNat)
  case atStart =>
    exact ⟨0, _, Nat.zero_le _, rfl, by simpa using hown.1, fun j hj => absurd hj (by omega), hown, hb1⟩
  case round =>
    clear hown hb1
    obtain ⟨k, xs, hk, rfl, hxl, hxs, hown, hbl⟩ := hrel
    by_cases hlt : k < n
    · obtain ⟨b, off, hxx, hcc⟩ := hc (by omega)
      cases hxx
      have hck := below_cell hbl (hcc k hlt)
      have hfz := hown.frozenAt
      have hbb : b < w.heap.size := World.block_lt_of_cell? w _ (hcc k hlt)
      obtain ⟨hb1, hb2⟩ := hb k
      have hce : ∀ j, j < 2 * n → ∃ v, wr.cell? ⟨w.heap.size, j, none⟩ = some v := by
        intro j hj
        rw [hown.cellAt j (by omega)]; exact ⟨_, List.getElem?_eq_getElem (by omega)⟩
      obtain ⟨v0, hce0⟩ := hce (2 * k) (by omega)
      obtain ⟨v1, hce1⟩ := hce (2 * k + 1) (by omega)
      have HX := enc_step (D := D) (zs := zs) hxl hlt hxs.out
      have hown2 : Hid (((wr.setCell ⟨w.heap.size, 2 * k, none⟩ (.int .u8 (dg D (zs.getD k 0 / 16)))).setCell ⟨w.heap.size, 2 * k + 1, none⟩ (.int .u8 (dg D (zs.getD k 0 % 16)))).ownsRow w.heap.size 5 1 (.slice (some ⟨w.heap.size, 0, none⟩) (2 * n) (2 * n)) (2 * n) ((xs.set (2 * k) (.int .u8 (dg D (zs.getD k 0 / 16)))).set (2 * k + 1) (.int .u8 (dg D (zs.getD k 0 % 16))))) :=
        ((hown.stored _ _).1.stored _ _).1
      clear hcc hc hb hxs hce
      generalize hze : zs.getD k 0 = z at *
      have hand := bits_and15 z hb1 hb2
      obtain ⟨m, rfl⟩ : ∃ m : Nat, z = m := ⟨z.toNat, by omega⟩
      clear hze
      have hr1 : 0 ≤ (m : Int) / 16 := by omega
      have hr2 : (m : Int) / 16 < 16 := by omega
      have hr3 : 0 ≤ (m : Int) % 16 := by omega
      have hr4 : (m : Int) % 16 < 16 := by omega
      have e1 : Hid ((D[m / 16].toNat : Int) = dg D ((m : Int) / 16)) := dg_at D (m / 16) (by omega)
      have e2 : Hid ((D[m % 16].toNat : Int) = dg D ((m : Int) % 16)) := dg_at D (m % 16) (by omega)
      go_wp2
      rw [e1.out, e2.out]
      go_roundw
      case rel => exact ⟨k + 1, _, by omega, by go_num, by simpa using hxl, HX, hown2.out, (hbl.setCell (Nat.le_refl _) _).setCell (Nat.le_refl _) _⟩
      case measure => simp [intOf]; omega
    · have hkn : k = n := by omega
      have hcv := run_convert_bytes_arg (P := Trym.prog) wr 24 5 Trym.underlying24 Trym.underlying5 w.heap.size 0 (2 * n) (2 * n) (encL D zs) (by simp [encL, hlen.out]) (by
        intro j hj
        rw [Nat.zero_add, hown.cellAt j (by omega), hxs.out j (by omega), encL_at D zs j (by rw [hlen.out]; exact hj)]) 9 Trym.underlying9
      clear hkn
      go_wp2
      go_ret
      exact ⟨rfl, hbl⟩
end Go.Proofs.Qxb6601583aMods
