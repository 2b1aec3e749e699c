import Derived.Test.Qxb6602006aModsWalkA
import Derived.Test.Qxb6602006aModsRev
namespace Go.Proofs.Qxb6602006aMods
open Go.RowKit

set_option maxHeartbeats 2000000 in
theorem model_any (s : ByteArray) (w : World) (hs : s.size ≤ 2097152) :
    Calls Trym.prog 8 #[.string s] w fun e w' => e = .returned (.string (str (keyL s.data.toList))) ∧ Below w.heap.size w w' := by
  obtain ⟨i0, hi, hz0, hz1, hz2⟩ := info_parts Trym.info5
  go_enter Trym.func8, Trym.ntmps8
  go_wp2_with (first | (at_make; refine wpList_make_own _ rfl _ _ 26 rfl w.heap.size 5 i0 (.int .u8 0) 1 Trym.underlying26 hi hz0 hz1 _ _ _ s.size rfl rfl rfl (by rw [hz2]; omega) (by unfold maxLen; omega) (Nat.le_refl _) ?_))
  intro w1 hown hgrow
  have hb1 : Below w.heap.size w w1 := (Below.refl _ w).grown hgrow (Nat.le_refl _) (by simp)
  clear hgrow
  go_wp2
  go_loopw [3, 4] (fun v i wr => ∃ (k m : Nat) (acc : List Int), k ≤ s.size ∧ m ≤ k ∧ i = .int .i64 k ∧ acc.length = m ∧ Hid (acc = ints (keep (s.data.toList.take k))) ∧ v = .slice (some ⟨w.heap.size, 0, none⟩) m s.size ∧ wr.ownsRow w.heap.size 5 1 (.slice (some ⟨w.heap.size, 0, none⟩) m s.size) m (acc.map (Value.int .u8)) ∧ Below w.heap.size w wr) (fun _ i _ => s.size - (intOf i).toNat)
  case atStart =>
    exact ⟨0, 0, [], Nat.zero_le _, Nat.le_refl _, rfl, rfl, rfl, rfl, hown, hb1⟩
  case round =>
    clear hown hb1
    obtain ⟨k, m, acc, hk, hmk, rfl, hal, HA, rfl, hown, hbl⟩ := hrel
    by_cases hlt : k < s.size
    · by_cases hd : nd s[k] = true
      · have HK : Hid (acc ++ [(s[k].toNat : Int)] = ints (keep (s.data.toList.take (k + 1)))) := by
          show _ = _
          rw [keep_yes s k hlt hd, HA.out]
        have hd2 : (s[k].toNat : Int) < 48 ∨ 57 < (s[k].toNat : Int) := of_decide_eq_true hd
        clear hd HA
        have hsz := hbl.size
        rcases hd2 with h | h
        all_goals
          go_wp2_with (first | (at_builtin; refine wpList_append_fits _ rfl _ _ 26 rfl w.heap.size 5 i0 1 Trym.underlying26 hi hz1 w.heap.size m s.size (acc.map (Value.int .u8)) rfl (hown.alloc _) ⟨wr.heap.size, 0, none⟩ 1 1 [.int .u8 (s[k].toNat : Int)] rfl rfl (cell_one_new _ _ _) (one_cell' _) (by omega) ?_))
          intro w2 hown2 hgrow2
          have hbl2 : Below w.heap.size w w2 := (hbl.alloc hsz _).grown hgrow2 (by simp; omega) (by simp)
          have hown3 : Hid (w2.ownsRow w.heap.size 5 1 (.slice (some ⟨w.heap.size, 0, none⟩) (m + 1) s.size) (m + 1) ((acc ++ [(s[k].toNat : Int)]).map (Value.int .u8))) := by
            rw [List.map_append]; exact hown2
          clear hown2 hgrow2 hown
          go_wp2
          go_roundw
          case rel => exact ⟨k + 1, m + 1, _, by omega, by omega, by go_num, by simp [hal], HK, rfl, hown3.out, hbl2⟩
          case measure => simp [intOf]; omega
      · have hd : nd s[k] = false := by simpa using hd
        have HK : Hid (acc = ints (keep (s.data.toList.take (k + 1)))) := by
          show _ = _
          rw [keep_no s k hlt hd, HA.out]
        have hd2 : ¬ ((s[k].toNat : Int) < 48 ∨ 57 < (s[k].toNat : Int)) := of_decide_eq_false hd
        have h1 : ¬ (s[k].toNat : Int) < 48 := fun h => hd2 (.inl h)
        have h2 : ¬ 57 < (s[k].toNat : Int) := fun h => hd2 (.inr h)
        clear hd hd2 HA
        go_wp2
        go_roundw
        case rel => exact ⟨k + 1, m, acc, by omega, by omega, by go_num, hal, HK, rfl, hown, hbl⟩
        case measure => simp [intOf]; omega
    · have HK : Hid (acc.reverse = ints (keyL s.data.toList)) := by
        show _ = _
        rw [HA.out, List.take_of_length_le (by simp; omega), ints_reverse]; rfl
      clear HA hi hz0 hz1 hz2
      have HL : Hid (acc.length = m) := hal
      clear hal
      have hms : m ≤ s.size := by omega
      go_wp2
      go_loopw [6, 7] (fun vi vj wq => ∃ (a : Nat) (J : Int) (ys : List Int), vi = .int .i64 a ∧ vj = .int .i64 J ∧ J = (m : Int) - 1 - a ∧ 2 * a ≤ m ∧ ys.length = m ∧ Hid (Mid acc ys m a) ∧ wq.ownsRow w.heap.size 5 1 (.slice (some ⟨w.heap.size, 0, none⟩) m s.size) m (ys.map (Value.int .u8)) ∧ Below w.heap.size w wq) (fun vi vj _ => (intOf vj - intOf vi).toNat)
      case atStart =>
        exact ⟨0, _, acc, rfl, rfl, by omega, by omega, HL.out, mid_start acc m, hown, hbl⟩
      case round =>
        clear hown hbl
        obtain ⟨a, J, ys, rfl, rfl, hJ, ha2, hyl, HM, hown, hbl⟩ := hrel
        by_cases haj : (a : Int) < J
        · obtain ⟨j, rfl⟩ : ∃ j : Nat, J = j := ⟨J.toNat, by omega⟩
          have hjm : j + a + 1 = m := by omega
          have hja : a < j := by omega
          have HM2 := mid_step hyl hjm hja HM.out
          have hca := row_cells hyl hown a (by omega)
          have hcj := row_cells hyl hown j (by omega)
          rw [Nat.zero_add] at hca hcj
          have hfz := hown.frozenAt
          have hst := ((hown.stored a (.int .u8 (ys.getD j 0))).1.stored j (.int .u8 (ys.getD a 0))).1
          rw [← List.map_set, ← List.map_set] at hst
          have hy2 : ((ys.set a (ys.getD j 0)).set j (ys.getD a 0)).length = m := by simpa using hyl
          generalize ys.getD a 0 = ya at *
          generalize ys.getD j 0 = yj at *
          have HST : Hid (((wr.setCell ⟨w.heap.size, a, none⟩ (.int .u8 yj)).setCell ⟨w.heap.size, j, none⟩ (.int .u8 ya)).ownsRow w.heap.size 5 1 (.slice (some ⟨w.heap.size, 0, none⟩) m s.size) m (((ys.set a yj).set j ya).map (Value.int .u8))) := hst
          have HMM : Hid (Mid acc ((ys.set a yj).set j ya) m (a + 1)) := HM2
          have HJ : Hid (j + a + 1 = m) := hjm
          have hjm2 : j < m := by omega
          have ham : a < m := by omega
          have hne : ¬ a = j := by omega
          have hne2 : ¬ j = a := by omega
          clear hst HM2 HM hjm hJ
          go_wp2
          go_roundw
          case rel => exact ⟨a + 1, _, _, by go_num, rfl, by have := HJ.out; omega, by have := HJ.out; omega, hy2, HMM, HST.out, (hbl.setCell (Nat.le_refl _) _).setCell (Nat.le_refl _) _⟩
          case measure => simp [intOf]; omega
        · have HE : Hid (ys = acc.reverse) := mid_end HL.out hyl ha2 (by omega) HM.out
          have hcv := run_convert_bytes_arg (P := Trym.prog) wr 26 5 Trym.underlying26 Trym.underlying5 w.heap.size 0 m s.size ys hyl (row_cells hyl hown) 9 Trym.underlying9
          clear hyl HM
          go_wp2
          go_ret
          refine ⟨ret_str ?_, hbl⟩
          rw [HE.out, HK.out, str_ints]
end Go.Proofs.Qxb6602006aMods
