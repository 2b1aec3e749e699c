import Derived.Test.Qxb6602006aModsRows
import Derived.Test.Qxb6602006aModsPlain
import Derived.WalkKit
import Derived.WalkSpells
import Derived.WalkLawsBesides
import Derived.Below
import Derived.OwnWalk
import Derived.OpenShut
import Derived.Maps.AppendAt
namespace Go.Proofs.Qxb6602006aMods
open Go.RowKit

theorem Trym.info5 : (Trym.prog.info? 5).map (fun i => (i.zero, i.size, i.bytes)) = some (some (.int .u8 0), 1, 1) := by kernel_rfl
theorem ret_bool {a b : Bool} (h : a = b) : Ending.returned (.bool a) = .returned (.bool b) := by rw [h]
theorem ret_str {a b : ByteArray} (h : a = b) : Ending.returned (.string a) = .returned (.string b) := by rw [h]

theorem row_cells {w : World} {base g m cap : Nat} {acc : List Int} (h : acc.length = m) (hown : w.ownsRow base 5 1 (.slice (some ⟨g, 0, none⟩) m cap) m (acc.map (Value.int .u8))) :
    ∀ i, i < m → w.cell? ⟨g, 0 + i, none⟩ = some (.int .u8 (acc.getD i 0)) := by
  intro i hi
  rw [Nat.zero_add, hown.cellAt i (by omega)]
  have : i < acc.length := by omega
  simp [List.getD_eq_getElem?_getD, this]

theorem one_cell' (x : Int) : ∀ u ∈ [Value.int .u8 x], u.oneCell' = true := by
  intro u hu; simp at hu; subst hu; rfl

set_option maxHeartbeats 1000000 in
theorem nameKey_any (s : ByteArray) (w : World) (hs : s.size ≤ 2097152) :
    Calls Trym.prog 11 #[.string s] w fun e w' => e = .returned (.string (str (keyL s.data.toList))) ∧ Below w.heap.size w w' := by
  obtain ⟨i0, hi, hz0, hz1, hz2⟩ := info_parts Trym.info5
  go_enter Trym.func11, Trym.ntmps11
  go_wp2_with (first | (at_make; refine wpList_make_own _ rfl _ _ 26 rfl w.heap.size 5 i0 (.int .u8 0) 1 Trym.underlying26 hi hz0 hz1 _ _ _ s.size rfl rfl rfl (by rw [hz2]; omega) (by unfold maxLen; omega) (Nat.le_refl _) ?_))
  intro w1 hown hgrow
  have hb1 : Below w.heap.size w w1 := (Below.refl _ w).grown hgrow (Nat.le_refl _) (by simp)
  clear hgrow
  go_wp2
  go_loopw [3, 4] (fun v i wr => ∃ (k m : Nat) (I : Int) (acc : List Int), k ≤ s.size ∧ m + k ≤ s.size ∧ i = .int .i64 I ∧ I = (k : Int) - 1 ∧ acc.length = m ∧ Hid (acc = ints (keyL (s.data.toList.drop k))) ∧ v = .slice (some ⟨w.heap.size, 0, none⟩) m s.size ∧ wr.ownsRow w.heap.size 5 1 (.slice (some ⟨w.heap.size, 0, none⟩) m s.size) m (acc.map (Value.int .u8)) ∧ Below w.heap.size w wr) (fun _ i _ => (intOf i + 1).toNat)
  case atStart =>
    exact ⟨s.size, 0, _, [], Nat.le_refl _, by omega, rfl, rfl, rfl, (key_end s).symm, rfl, hown, hb1⟩
  case round =>
    clear hown hb1
    obtain ⟨k, m, I, acc, hk, hmk, rfl, hI, hal, HA, rfl, hown, hbl⟩ := hrel
    cases k with
    | zero =>
      obtain rfl : I = -1 := by omega
      clear hI
      have hcv := run_convert_bytes_arg (P := Trym.prog) wr 26 5 Trym.underlying26 Trym.underlying5 w.heap.size 0 m s.size acc hal (row_cells hal hown) 9 Trym.underlying9
      clear hal
      go_wp2
      go_ret
      refine ⟨ret_str ?_, hbl⟩
      rw [HA.out, List.drop_zero, str_ints]
    | succ k =>
      obtain rfl : I = (k : Int) := by omega
      clear hI
      have hlt : k < s.size := by omega
      by_cases hd : nd s[k] = true
      · have HK : Hid (acc ++ [(s[k].toNat : Int)] = ints (keyL (s.data.toList.drop k))) := by
          show _ = _
          rw [key_yes s k hlt hd, HA.out]
        have hd2 : (s[k].toNat : Int) < 48 ∨ 57 < (s[k].toNat : Int) := of_decide_eq_true hd
        clear hd HA
        have hsz := hbl.size
        rcases hd2 with h | h
        all_goals
          go_wp2_with (first | (at_builtin; refine wpList_append_fits _ rfl _ _ 26 rfl w.heap.size 5 i0 1 Trym.underlying26 hi hz1 w.heap.size m s.size (acc.map (Value.int .u8)) rfl (hown.alloc _) ⟨wr.heap.size, 0, none⟩ 1 1 [.int .u8 (s[k].toNat : Int)] rfl rfl (cell_one_new _ _ _) (one_cell' _) (by omega) ?_))
          intro w2 hown2 hgrow2
          have hbl2 : Below w.heap.size w w2 := (hbl.alloc hsz _).grown hgrow2 (by simp; omega) (by simp)
          have hown3 : Hid (w2.ownsRow w.heap.size 5 1 (.slice (some ⟨w.heap.size, 0, none⟩) (m + 1) s.size) (m + 1) ((acc ++ [(s[k].toNat : Int)]).map (Value.int .u8))) := by
            rw [List.map_append]; exact hown2
          clear hown2 hgrow2 hown
          go_wp2
          go_roundw
          case rel => exact ⟨k, m + 1, _, _, by omega, by omega, rfl, by omega, by simp [hal], HK, rfl, hown3.out, hbl2⟩
          case measure => simp [intOf]
      · have hd : nd s[k] = false := by simpa using hd
        have HK : Hid (acc = ints (keyL (s.data.toList.drop k))) := by
          show _ = _
          rw [key_no s k hlt hd, HA.out]
        have hd2 : ¬ ((s[k].toNat : Int) < 48 ∨ 57 < (s[k].toNat : Int)) := of_decide_eq_false hd
        have h1 : ¬ (s[k].toNat : Int) < 48 := fun h => hd2 (.inl h)
        have h2 : ¬ 57 < (s[k].toNat : Int) := fun h => hd2 (.inr h)
        clear hd hd2 HA
        go_wp2
        go_roundw
        case rel => exact ⟨k, m, _, acc, by omega, by omega, rfl, by omega, hal, HK, rfl, hown, hbl⟩
        case measure => simp [intOf]

theorem zzNameKey_any (s : ByteArray) (w : World) (hs : s.size ≤ 2097152) :
    Calls Trym.prog 7 #[.string s] w fun e w' => e = .returned (.string (str (keyL s.data.toList))) ∧ Below w.heap.size w w' := by
  go_enter Trym.func7, Trym.ntmps7
  go_wp2_with (go_at_call 11; refine (nameKey_any _ _ hs).mono ?_; rintro e w' ⟨rfl, hb⟩)
  go_ret
  exact ⟨rfl, hb⟩

theorem zzBytes6_small (s : ByteArray) (w : World) (hn : s.size ≤ 1048576) :
    Calls Trym.prog 6 #[.string s] w fun e w' => e = .returned (.bool true) ∧ w' = w := by
  have h1 : ¬ (1048576 : Int) < s.size := by omega
  go_enter Trym.func6, Trym.ntmps6
  go_wp2
  go_ret
  exact ⟨rfl, rfl⟩
theorem zzBytes6_great (s : ByteArray) (w : World) (hn : 1048576 < s.size) :
    Calls Trym.prog 6 #[.string s] w fun e w' => e = .returned (.bool false) ∧ w' = w := by
  have h1 : (1048576 : Int) < s.size := by omega
  go_enter Trym.func6, Trym.ntmps6
  go_wp2
  go_ret
  exact ⟨rfl, rfl⟩
theorem zzBytes10_small (s : ByteArray) (p d : Int) (w : World) (hn : s.size ≤ 1048576) :
    Calls Trym.prog 10 #[.string s, .int .i64 p, .int .u8 d] w fun e w' => e = .returned (.bool true) ∧ w' = w := by
  have h1 : ¬ (1048576 : Int) < s.size := by omega
  go_enter Trym.func10, Trym.ntmps10
  go_wp2
  go_ret
  exact ⟨rfl, rfl⟩
theorem zzBytes10_great (s : ByteArray) (p d : Int) (w : World) (hn : 1048576 < s.size) :
    Calls Trym.prog 10 #[.string s, .int .i64 p, .int .u8 d] w fun e w' => e = .returned (.bool false) ∧ w' = w := by
  have h1 : (1048576 : Int) < s.size := by omega
  go_enter Trym.func10, Trym.ntmps10
  go_wp2
  go_ret
  exact ⟨rfl, rfl⟩
end Go.Proofs.Qxb6602006aMods
