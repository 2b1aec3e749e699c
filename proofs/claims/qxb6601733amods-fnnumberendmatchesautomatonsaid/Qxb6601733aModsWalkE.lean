import Derived.Test.Qxb6601733aModsWalkC
import Derived.Test.Qxb6601733aModsWalkD
namespace Go.Proofs.Qxb6601733aMods
open Go.RowKit

theorem aut_step (zs : List Int) (j s t : Nat) (h : j < zs.length) (hs : stepI s (zs.getD j 0) = t) : ans j (aut s (zs.drop j)) = ans (j + 1) (aut t (zs.drop (j + 1))) := by
  rw [drop_cons zs j h, aut_go _ hs, ans_up]
theorem aut_halt (zs : List Int) (j s : Nat) (h : j < zs.length) (hs : stepI s (zs.getD j 0) = -1) : ans j (aut s (zs.drop j)) = ans j (fin s) := by
  rw [drop_cons zs j h, aut_stop _ hs]
theorem aut_out (zs : List Int) (j s : Nat) (h : zs.length ≤ j) : ans j (aut s (zs.drop j)) = ans j (fin s) := by
  rw [List.drop_of_length_le h]; rfl

/-- the accepting states, as the walk asks for them -/
theorem accs (s : Nat) : s = 2 ∨ s = 3 ∨ s = 5 ∨ s = 8 ∨ (((s : Int) == 2) = false ∧ ((s : Int) == 3) = false ∧ ((s : Int) == 5) = false ∧ ((s : Int) == 8) = false ∧ Hid (fin s = none)) := by
  by_cases h : s = 2 ∨ s = 3 ∨ s = 5 ∨ s = 8
  · omega
  · refine .inr (.inr (.inr (.inr ⟨?_, ?_, ?_, ?_, ?_⟩)))
    · simp; omega
    · simp; omega
    · simp; omega
    · simp; omega
    · show fin s = none
      rw [fin, if_neg h]

set_option maxHeartbeats 1000000 in
theorem automaton_any (b off n c i : Nat) (zs : List Int) (w : World) (hn : n ≤ 1048576) (hi : i < n) (hlen0 : zs.length = n)
    (hcell : ∀ j, j < n → w.cell? ⟨b, off + j, none⟩ = some (.int .u8 (zs.getD j 0))) (R : Int) (hR : R = ans i (numE (zs.drop i))) :
    Calls Trym.prog 8 #[.slice (some ⟨b, off, none⟩) n c, .int .i64 (i : Int)] w fun e w' => e = .returned (.int .i64 R) ∧ w' = w := by
  have hlen : Hid (zs.length = n) := hlen0
  have HR : Hid (R = ans i (aut 0 (zs.drop i))) := by rw [aut0]; exact hR
  have HC : Hid (∀ j, j < n → w.cell? ⟨b, off + j, none⟩ = some (.int .u8 (zs.getD j 0))) := hcell
  clear hlen0 hR hcell
  go_enter Trym.func8, Trym.ntmps8
  go_wp2
  go_loop [5, 6] (fun vs vj => ∃ s j : Nat, s ≤ 8 ∧ i ≤ j ∧ j ≤ n ∧ vs = .int .i64 s ∧ vj = .int .i64 j ∧ Hid (R = ans j (aut s (zs.drop j)))) (fun _ vj => n - (intOf vj).toNat)
  case atStart => exact ⟨0, i, by omega, by omega, by omega, rfl, rfl, HR⟩
  case round =>
    obtain ⟨s, j, hs, hij, hjn, rfl, rfl, HA⟩ := hrel
    clear HR
    by_cases hj : j < n
    · have hck := HC.out j hj
      obtain ⟨z, HZ⟩ : ∃ z, Hid (zs.getD j 0 = z) := ⟨_, rfl⟩
      rw [HZ.out] at hck
      have hst := fun W => step_any s hs z W
      rcases stepI_range s z with h | ⟨h1, h2⟩
      · have HF : Hid (R = ans j (fin s)) := by
          have := aut_halt zs j s (by rw [hlen.out]; exact hj) (by rw [HZ.out]; exact h)
          show R = _
          rw [HA.out, this]
        rw [h] at hst
        clear HA h
        rcases accs s with rfl | rfl | rfl | rfl | ⟨a1, a2, a3, a4, HN⟩
        all_goals
          go_wp2_with (go_at_call 11; refine (hst _).mono ?_; rintro e w' ⟨rfl, rfl⟩)
          go_ret
          exact ⟨ret_int (by rw [HF.out]; first | rfl | (rw [HN.out]; rfl)), rfl⟩
      · obtain ⟨t, ht⟩ : ∃ t : Nat, stepI s z = t := ⟨(stepI s z).toNat, by omega⟩
        have ht8 : t ≤ 8 := by omega
        have HF : Hid (R = ans (j + 1) (aut t (zs.drop (j + 1)))) := by
          have := aut_step zs j s t (by rw [hlen.out]; exact hj) (by rw [HZ.out]; exact ht)
          show R = _
          rw [HA.out, this]
        rw [ht] at hst
        clear HA h1 h2 ht
        go_wp2_with (go_at_call 11; refine (hst _).mono ?_; rintro e w' ⟨rfl, rfl⟩)
        go_round
        case rel => exact ⟨t, j + 1, ht8, by omega, by omega, rfl, by go_num, HF⟩
        case measure => simp [intOf]; omega
    · have HF : Hid (R = ans j (fin s)) := by
        have := aut_out zs j s (by rw [hlen.out]; omega)
        show R = _
        rw [HA.out, this]
      clear HA
      rcases accs s with rfl | rfl | rfl | rfl | ⟨a1, a2, a3, a4, HN⟩
      all_goals
        go_wp2
        go_ret
        exact ⟨ret_int (by rw [HF.out]; first | rfl | (rw [HN.out]; rfl)), rfl⟩
end Go.Proofs.Qxb6601733aMods
