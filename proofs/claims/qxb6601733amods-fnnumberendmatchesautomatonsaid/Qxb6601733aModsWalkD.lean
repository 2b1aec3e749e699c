import Derived.Test.Qxb6601733aModsWalkA
import Derived.Test.Qxb6601733aModsAut
namespace Go.Proofs.Qxb6601733aMods
open Go.RowKit

/-- the classes of a byte that the automaton tells apart, each with what the walk asks of it -/
theorem cls (c : Int) : c = 45 ∨ c = 48 ∨ c = 46 ∨ c = 101 ∨ c = 69 ∨ c = 43 ∨
    (49 ≤ c ∧ c ≤ 57 ∧ 48 ≤ c ∧ (c == 45) = false ∧ (c == 48) = false ∧ (c == 46) = false ∧ (c == 101) = false ∧ (c == 69) = false ∧ (c == 43) = false) ∨
    ((c < 48 ∨ 57 < c) ∧ (c == 45) = false ∧ (c == 48) = false ∧ (c == 46) = false ∧ (c == 101) = false ∧ (c == 69) = false ∧ (c == 43) = false) := by
  simp only [beq_eq_false_iff_ne]
  omega

set_option maxHeartbeats 1000000 in
theorem step_0 (c : Int) (w : World) :
    Calls Trym.prog 11 #[.int .i64 0, .int .u8 c] w fun e w' => e = .returned (.int .i64 (stepI 0 c)) ∧ w' = w := by
  obtain ⟨v, HV⟩ : ∃ v, Hid (stepI 0 c = v) := ⟨_, rfl⟩
  rw [HV.out]
  rcases cls c with rfl | rfl | rfl | rfl | rfl | rfl | ⟨h1, h2, h3, b1, b2, b3, b4, b5, b6⟩ | ⟨h1 | h1, b1, b2, b3, b4, b5, b6⟩
  all_goals
    go_enter Trym.func11, Trym.ntmps11
    go_wp2
    go_ret
    refine ⟨ret_int ?_, rfl⟩
    rw [← HV.out]
    first
      | rfl
      | (simp only [beq_eq_false_iff_ne] at *
         simp only [stepI]
         repeat' split
         all_goals first | rfl | omega)

set_option maxHeartbeats 1000000 in
theorem step_1 (c : Int) (w : World) :
    Calls Trym.prog 11 #[.int .i64 1, .int .u8 c] w fun e w' => e = .returned (.int .i64 (stepI 1 c)) ∧ w' = w := by
  obtain ⟨v, HV⟩ : ∃ v, Hid (stepI 1 c = v) := ⟨_, rfl⟩
  rw [HV.out]
  rcases cls c with rfl | rfl | rfl | rfl | rfl | rfl | ⟨h1, h2, h3, b1, b2, b3, b4, b5, b6⟩ | ⟨h1 | h1, b1, b2, b3, b4, b5, b6⟩
  all_goals
    go_enter Trym.func11, Trym.ntmps11
    go_wp2
    go_ret
    refine ⟨ret_int ?_, rfl⟩
    rw [← HV.out]
    first
      | rfl
      | (simp only [beq_eq_false_iff_ne] at *
         simp only [stepI]
         repeat' split
         all_goals first | rfl | omega)

set_option maxHeartbeats 1000000 in
theorem step_2 (c : Int) (w : World) :
    Calls Trym.prog 11 #[.int .i64 2, .int .u8 c] w fun e w' => e = .returned (.int .i64 (stepI 2 c)) ∧ w' = w := by
  obtain ⟨v, HV⟩ : ∃ v, Hid (stepI 2 c = v) := ⟨_, rfl⟩
  rw [HV.out]
  rcases cls c with rfl | rfl | rfl | rfl | rfl | rfl | ⟨h1, h2, h3, b1, b2, b3, b4, b5, b6⟩ | ⟨h1 | h1, b1, b2, b3, b4, b5, b6⟩
  all_goals
    go_enter Trym.func11, Trym.ntmps11
    go_wp2
    go_ret
    refine ⟨ret_int ?_, rfl⟩
    rw [← HV.out]
    first
      | rfl
      | (simp only [beq_eq_false_iff_ne] at *
         simp only [stepI]
         repeat' split
         all_goals first | rfl | omega)

set_option maxHeartbeats 1000000 in
theorem step_3 (c : Int) (w : World) :
    Calls Trym.prog 11 #[.int .i64 3, .int .u8 c] w fun e w' => e = .returned (.int .i64 (stepI 3 c)) ∧ w' = w := by
  obtain ⟨v, HV⟩ : ∃ v, Hid (stepI 3 c = v) := ⟨_, rfl⟩
  rw [HV.out]
  rcases cls c with rfl | rfl | rfl | rfl | rfl | rfl | ⟨h1, h2, h3, b1, b2, b3, b4, b5, b6⟩ | ⟨h1 | h1, b1, b2, b3, b4, b5, b6⟩
  all_goals
    go_enter Trym.func11, Trym.ntmps11
    go_wp2
    go_ret
    refine ⟨ret_int ?_, rfl⟩
    rw [← HV.out]
    first
      | rfl
      | (simp only [beq_eq_false_iff_ne] at *
         simp only [stepI]
         repeat' split
         all_goals first | rfl | omega)

set_option maxHeartbeats 1000000 in
theorem step_4 (c : Int) (w : World) :
    Calls Trym.prog 11 #[.int .i64 4, .int .u8 c] w fun e w' => e = .returned (.int .i64 (stepI 4 c)) ∧ w' = w := by
  obtain ⟨v, HV⟩ : ∃ v, Hid (stepI 4 c = v) := ⟨_, rfl⟩
  rw [HV.out]
  rcases cls c with rfl | rfl | rfl | rfl | rfl | rfl | ⟨h1, h2, h3, b1, b2, b3, b4, b5, b6⟩ | ⟨h1 | h1, b1, b2, b3, b4, b5, b6⟩
  all_goals
    go_enter Trym.func11, Trym.ntmps11
    go_wp2
    go_ret
    refine ⟨ret_int ?_, rfl⟩
    rw [← HV.out]
    first
      | rfl
      | (simp only [beq_eq_false_iff_ne] at *
         simp only [stepI]
         repeat' split
         all_goals first | rfl | omega)

set_option maxHeartbeats 1000000 in
theorem step_5 (c : Int) (w : World) :
    Calls Trym.prog 11 #[.int .i64 5, .int .u8 c] w fun e w' => e = .returned (.int .i64 (stepI 5 c)) ∧ w' = w := by
  obtain ⟨v, HV⟩ : ∃ v, Hid (stepI 5 c = v) := ⟨_, rfl⟩
  rw [HV.out]
  rcases cls c with rfl | rfl | rfl | rfl | rfl | rfl | ⟨h1, h2, h3, b1, b2, b3, b4, b5, b6⟩ | ⟨h1 | h1, b1, b2, b3, b4, b5, b6⟩
  all_goals
    go_enter Trym.func11, Trym.ntmps11
    go_wp2
    go_ret
    refine ⟨ret_int ?_, rfl⟩
    rw [← HV.out]
    first
      | rfl
      | (simp only [beq_eq_false_iff_ne] at *
         simp only [stepI]
         repeat' split
         all_goals first | rfl | omega)

set_option maxHeartbeats 1000000 in
theorem step_6 (c : Int) (w : World) :
    Calls Trym.prog 11 #[.int .i64 6, .int .u8 c] w fun e w' => e = .returned (.int .i64 (stepI 6 c)) ∧ w' = w := by
  obtain ⟨v, HV⟩ : ∃ v, Hid (stepI 6 c = v) := ⟨_, rfl⟩
  rw [HV.out]
  rcases cls c with rfl | rfl | rfl | rfl | rfl | rfl | ⟨h1, h2, h3, b1, b2, b3, b4, b5, b6⟩ | ⟨h1 | h1, b1, b2, b3, b4, b5, b6⟩
  all_goals
    go_enter Trym.func11, Trym.ntmps11
    go_wp2
    go_ret
    refine ⟨ret_int ?_, rfl⟩
    rw [← HV.out]
    first
      | rfl
      | (simp only [beq_eq_false_iff_ne] at *
         simp only [stepI]
         repeat' split
         all_goals first | rfl | omega)

set_option maxHeartbeats 1000000 in
theorem step_7 (c : Int) (w : World) :
    Calls Trym.prog 11 #[.int .i64 7, .int .u8 c] w fun e w' => e = .returned (.int .i64 (stepI 7 c)) ∧ w' = w := by
  obtain ⟨v, HV⟩ : ∃ v, Hid (stepI 7 c = v) := ⟨_, rfl⟩
  rw [HV.out]
  rcases cls c with rfl | rfl | rfl | rfl | rfl | rfl | ⟨h1, h2, h3, b1, b2, b3, b4, b5, b6⟩ | ⟨h1 | h1, b1, b2, b3, b4, b5, b6⟩
  all_goals
    go_enter Trym.func11, Trym.ntmps11
    go_wp2
    go_ret
    refine ⟨ret_int ?_, rfl⟩
    rw [← HV.out]
    first
      | rfl
      | (simp only [beq_eq_false_iff_ne] at *
         simp only [stepI]
         repeat' split
         all_goals first | rfl | omega)

set_option maxHeartbeats 1000000 in
theorem step_8 (c : Int) (w : World) :
    Calls Trym.prog 11 #[.int .i64 8, .int .u8 c] w fun e w' => e = .returned (.int .i64 (stepI 8 c)) ∧ w' = w := by
  obtain ⟨v, HV⟩ : ∃ v, Hid (stepI 8 c = v) := ⟨_, rfl⟩
  rw [HV.out]
  rcases cls c with rfl | rfl | rfl | rfl | rfl | rfl | ⟨h1, h2, h3, b1, b2, b3, b4, b5, b6⟩ | ⟨h1 | h1, b1, b2, b3, b4, b5, b6⟩
  all_goals
    go_enter Trym.func11, Trym.ntmps11
    go_wp2
    go_ret
    refine ⟨ret_int ?_, rfl⟩
    rw [← HV.out]
    first
      | rfl
      | (simp only [beq_eq_false_iff_ne] at *
         simp only [stepI]
         repeat' split
         all_goals first | rfl | omega)

theorem step_any (s : Nat) (hs : s ≤ 8) (c : Int) (w : World) :
    Calls Trym.prog 11 #[.int .i64 (s : Int), .int .u8 c] w fun e w' => e = .returned (.int .i64 (stepI s c)) ∧ w' = w := by
  have h : s = 0 ∨ s = 1 ∨ s = 2 ∨ s = 3 ∨ s = 4 ∨ s = 5 ∨ s = 6 ∨ s = 7 ∨ s = 8 := by omega
  rcases h with rfl | rfl | rfl | rfl | rfl | rfl | rfl | rfl | rfl
  · exact step_0 c w
  · exact step_1 c w
  · exact step_2 c w
  · exact step_3 c w
  · exact step_4 c w
  · exact step_5 c w
  · exact step_6 c w
  · exact step_7 c w
  · exact step_8 c w
end Go.Proofs.Qxb6601733aMods
