import Derived.Test.Qxb6601661aModsWalkA
namespace Go.Proofs.Qxb6601661aMods
open Go.RowKit

theorem Trym.len31 : Trym.prog.arrayLen 31 = 20 := by kernel_rfl
theorem Trym.elm31 : Trym.prog.elem 31 = 5 := by kernel_rfl
theorem Trym.und31 : Trym.prog.underlying 31 = some (.array 20 5) := by kernel_rfl
theorem size5 (W : World) : (sizeOf 5).run Trym.prog W = .ok 1 W := by kernel_rfl
theorem tail_slice (B k : Nat) (hk : k < 20) (W : World) :
    (Instr.sliceAt 31 (.pointer (some ⟨B, 0, none⟩)) (some (.int .i64 (k : Int))) none none).run Trym.prog W = .ok (.slice (some ⟨B, k, none⟩) (20 - k) (20 - k)) W := by
  rw [run_sliceAt_array_l W 31 ⟨B, 0, none⟩ (by rw [Trym.len31, Trym.elm31]; exact Trym.und31) .i64 k (by omega) (by rw [Trym.len31]; omega), Trym.elm31, Trym.len31, size5]
  have hne : ¬ 20 = k := by omega
  simp [Result.andThen, slicedAt, Addr.add, hne]
  exact fun h => h.symm

theorem getD_set (xs : List Int) (k j : Nat) (d : Int) (hk : k < xs.length) : (xs.set k d).getD j 0 = if j = k then d else xs.getD j 0 := by
  simp only [List.getD_eq_getElem?_getD, List.getElem?_set]
  by_cases e : k = j
  · subst e; simp [hk]
  · rw [if_neg e, if_neg (Ne.symm e)]

theorem dig_step (xs : List Int) (k m : Nat) (hx : xs.length = 20) (hk : k < 20) (h : ∀ j, k + 1 ≤ j → j < 20 → dig1 (xs.getD j 0) = true) :
    ∀ j, k ≤ j → j < 20 → dig1 ((xs.set k (48 + (m : Int) % 10)).getD j 0) = true := by
  intro j h1 h2
  rw [getD_set xs k j _ (by omega)]
  by_cases e : j = k
  · rw [if_pos e]; exact decide_eq_true (by omega)
  · rw [if_neg e]; exact h j (by omega) h2

theorem tail_digB (ys : List Int) (k : Nat) (hy : ys.length = 20) (hk : k < 20) (h : ∀ j, k ≤ j → j < 20 → dig1 (ys.getD j 0) = true) : digB (strOfNums (ys.drop k)).data.toList = true := by
  rw [strOfNums_data]
  unfold digB allB
  rw [Bool.and_eq_true]
  constructor
  · rw [List.all_eq_true]
    intro c hc
    rw [List.mem_map] at hc
    obtain ⟨n, hn, rfl⟩ := hc
    obtain ⟨j, hj, rfl⟩ := List.getElem_of_mem hn
    rw [List.length_drop] at hj
    have := h (k + j) (by omega) (by omega)
    have e : ys.getD (k + j) 0 = (ys.drop k)[j] := by
      rw [List.getD_eq_getElem?_getD, List.getElem?_eq_getElem (by omega)]; simp
    rw [e] at this
    have h2 : 48 ≤ (ys.drop k)[j] ∧ (ys.drop k)[j] ≤ 57 := of_decide_eq_true this
    rw [UInt8.toNat_ofNat']
    exact decide_eq_true (by omega)
  · have : (List.map (fun n : Int => UInt8.ofNat n.toNat) (ys.drop k)).length = 20 - k := by simp [hy]
    cases hl : List.map (fun n : Int => UInt8.ofNat n.toNat) (ys.drop k) with
    | nil => rw [hl] at this; simp at this; omega
    | cons => rfl

theorem tail_cells {w : World} {B k : Nat} {base : Nat} {ys : List Int} (hy : ys.length = 20) (hown : w.ownsRow base 31 1 (.slice (some ⟨B, 0, none⟩) 20 20) 20 (ys.map (Value.int .u8))) :
    ∀ i, i < 20 - k → w.cell? ⟨B, k + i, none⟩ = some (.int .u8 ((ys.drop k).getD i 0)) := by
  intro i hi
  rw [hown.cellAt (k + i) (by omega)]
  have : k + i < ys.length := by omega
  simp [List.getD_eq_getElem?_getD, this]

set_option maxHeartbeats 400000 in
theorem decimal_any (a0 : Int) (w : World) (h0 : 0 ≤ a0) (h1 : a0 ≤ 18446744073709551615) :
    Calls Trym.prog 10 #[.int .u64 a0] w fun e w' => ∃ s : ByteArray, e = .returned (.string s) ∧ digB s.data.toList = true ∧ s.size ≤ 20 ∧ Below w.heap.size w w' := by
  go_enter Trym.func10, Trym.ntmps10
  go_wp2
  go_loopw [0, 4] (fun n i wr => ∃ (k m : Nat) (xs : List Int), k ≤ 20 ∧ 1 ≤ k ∧ n = .int .u64 m ∧ i = .int .i64 k ∧ Hid (m < 10 ^ k) ∧ (m : Int) ≤ 18446744073709551615 ∧ xs.length = 20 ∧ Hid (∀ j, k ≤ j → j < 20 → dig1 (xs.getD j 0) = true) ∧ wr.ownsRow w.heap.size 31 1 (.slice (some ⟨w.heap.size, 0, none⟩) 20 20) 20 (xs.map (Value.int .u8)) ∧ Below w.heap.size w wr) (fun _ i _ => (intOf i).toNat)
  case atStart =>
    refine ⟨20, a0.toNat, List.replicate 20 0, by omega, by omega, ?_, rfl, ?_, by omega, rfl, ?_, ?_, (Below.refl _ _).alloc (Nat.le_refl _) _⟩
    · congr 1; omega
    · show a0.toNat < 10 ^ 20; omega
    · intro j h1 h2; omega
    · exact World.ownsRow_lit w _ 20 (Nat.le_refl _) (by decide) rfl
  case round =>
    obtain ⟨k, m, xs, hk, hk1, rfl, rfl, hm, hm2, hxl, hdx, hown, hbl⟩ := hrel
    obtain ⟨k, rfl⟩ : ∃ q, k = q + 1 := ⟨k - 1, by omega⟩
    have hfz := hown.frozenAt k
    have hce : ∃ v, wr.cell? ⟨w.heap.size, k, none⟩ = some v := by
      rw [hown.cellAt k (by omega)]; exact ⟨_, List.getElem?_eq_getElem (by simp; omega)⟩
    obtain ⟨v0, hce⟩ := hce
    have hsl := tail_slice w.heap.size k (by omega)
    have hst := (hown.stored k (.int .u8 (48 + (m : Int) % 10))).1
    rw [← List.map_set] at hst
    have HS : Hid ((wr.setCell ⟨w.heap.size, k, none⟩ (.int .u8 (48 + (m : Int) % 10))).ownsRow w.heap.size 31 1 (.slice (some ⟨w.heap.size, 0, none⟩) 20 20) 20 ((xs.set k (48 + (m : Int) % 10)).map (Value.int .u8))) := hst
    have hxl2 : (xs.set k (48 + (m : Int) % 10)).length = 20 := by simpa using hxl
    have HX : Hid (∀ j, k ≤ j → j < 20 → dig1 ((xs.set k (48 + (m : Int) % 10)).getD j 0) = true) := dig_step xs k m hxl (by omega) hdx.out
    have HB := hbl.setCell (p := ⟨w.heap.size, k, none⟩) (Nat.le_refl _) (.int .u8 (48 + (m : Int) % 10))
    have hcv := run_convert_bytes_arg (P := Trym.prog) (wr.setCell ⟨w.heap.size, k, none⟩ (.int .u8 (48 + (m : Int) % 10))) 27 5 Trym.underlying27 Trym.underlying5 w.heap.size k (20 - k) (20 - k) _ (by rw [List.length_drop, hxl2]) (tail_cells hxl2 hst) 9 Trym.underlying9
    clear hst hxl2
    generalize hys : xs.set k (48 + (m : Int) % 10) = ys at *
    go_wp2
    · go_ret
      refine ⟨_, rfl, tail_digB ys k (by rw [← hys]; simpa using hxl) (by omega) HX.out, ?_, HB⟩
      rw [strOfNums_size, List.length_drop, ← hys, List.length_set]; omega
    · rename_i hne
      go_roundw
      case rel =>
        have hmp : m / 10 ≠ 0 := by
          intro e
          have : ((m : Int) / 10 == 0) = true := by simp; omega
          rw [this] at hne; cases hne
        have hk0 : k ≠ 0 := by
          rintro rfl
          have := hm.out; omega
        exact ⟨k, m / 10, ys, by omega, by omega, by go_num, rfl, (by have := hm.out; rw [Nat.pow_succ] at this; exact Nat.div_lt_of_lt_mul (by omega)), by omega, by rw [← hys]; simpa using hxl, HX, HS.out, HB⟩
      case measure => simp [intOf]

theorem zzIsDigits_any (s : ByteArray) (w : World) (hs : s.size ≤ 1024) :
    Calls Trym.prog 9 #[.string s] w fun e w' => e = .returned (.bool (digB s.data.toList)) ∧ Below w.heap.size w w' := by
  go_enter Trym.func9, Trym.ntmps9
  go_wp2_with (go_at_call 16; refine (isDigits_any _ _ hs).mono ?_; rintro e w' ⟨rfl, hb⟩)
  go_ret
  exact ⟨rfl, hb⟩

theorem minus_not (s : ByteArray) : digB (ByteArray.mk #[45] ++ s).data.toList = false := by
  have h : allB (ByteArray.mk #[45] ++ s).data.toList = false := by
    simp [allB, dig1]
  rw [digB, h, Bool.false_and]
theorem blank_not (s : ByteArray) : digB (s ++ ByteArray.mk #[32]).data.toList = false := by
  have h : allB (s ++ ByteArray.mk #[32]).data.toList = false := by
    simp [allB, dig1]
  rw [digB, h, Bool.false_and]
end Go.Proofs.Qxb6601661aMods
