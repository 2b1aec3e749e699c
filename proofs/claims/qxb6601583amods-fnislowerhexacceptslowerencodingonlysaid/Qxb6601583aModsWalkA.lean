import Derived.Test.Qxb6601583aModsRows
import Derived.WalkKit
import Derived.WalkSpells
import Derived.WalkLawsBesides
import Derived.Below
namespace Go.Proofs.Qxb6601583aMods
open Go.RowKit

/-- a byte that is '0'..'9' or 'a'..'f' -/
def hexB (c : Int) : Bool := decide ((48 ≤ c ∧ c ≤ 57) ∨ (97 ≤ c ∧ c ≤ 102))
def lowB (l : List UInt8) : Bool := l.all fun c => hexB (c.toNat : Int)

theorem take_snoc (s : ByteArray) (k : Nat) (h : k < s.size) : s.data.toList.take (k + 1) = s.data.toList.take k ++ [s[k]] := by
  rw [List.take_succ_eq_append_getElem (by simpa using h)]; rfl
theorem lowB_snoc (s : ByteArray) (k : Nat) (h : k < s.size) (h1 : lowB (s.data.toList.take k) = true) (h2 : hexB (s[k].toNat : Int) = true) : lowB (s.data.toList.take (k + 1)) = true := by
  rw [take_snoc s k h]; unfold lowB at *; rw [List.all_append, h1]; simpa using h2
theorem lowB_not (s : ByteArray) (k : Nat) (h : k < s.size) (h2 : hexB (s[k].toNat : Int) = false) : lowB s.data.toList = false := by
  unfold lowB
  rw [List.all_eq_false]
  exact ⟨s[k], by simp [ByteArray.getElem_eq_getElem_data], by simpa using h2⟩
theorem ret_bool {a b : Bool} (h : a = b) : Ending.returned (.bool a) = .returned (.bool b) := by rw [h]

theorem five (c : Int) : c < 48 ∨ (48 ≤ c ∧ c ≤ 57) ∨ (57 < c ∧ c < 97 ∧ decide (c ≤ 57) = false) ∨ (97 ≤ c ∧ c ≤ 102 ∧ decide (c ≤ 57) = false) ∨ (102 < c ∧ 97 ≤ c ∧ decide (c ≤ 57) = false ∧ decide (c ≤ 102) = false) := by
  simp only [decide_eq_false_iff_not]; omega

set_option maxHeartbeats 400000 in
theorem isLowerHex_any (s : ByteArray) (w : World) (hs : s.size ≤ maxLen) :
    Calls Trym.prog 11 #[.string s] w fun e w' => e = .returned (.bool (lowB s.data.toList)) ∧ w' = w := by
  unfold maxLen at hs
  go_enter Trym.func11, Trym.ntmps11
  go_wp2
  go_loop [3] (fun i => ∃ k : Nat, k ≤ s.size ∧ i = .int .i64 k ∧ Hid (lowB (s.data.toList.take k) = true)) (fun i => s.size - (intOf i).toNat)
  case atStart => exact ⟨0, Nat.zero_le _, rfl, rfl⟩
  case round =>
    obtain ⟨k, hk, rfl, hl⟩ := hrel
    by_cases hlt : k < s.size
    · rcases five (s[k].toNat : Int) with h | ⟨h, h'⟩ | ⟨h, h', e1⟩ | ⟨h, h', e1⟩ | ⟨h, h', e1, e2⟩
      all_goals go_wp2
      all_goals first
        | (go_ret; exact ⟨ret_bool (lowB_not s k hlt (decide_eq_false (by omega))).symm, rfl⟩)
        | (go_round
           case rel => exact ⟨k + 1, by omega, by go_num, lowB_snoc s k hlt hl.out (decide_eq_true (by omega))⟩
           case measure => simp [intOf]; omega)
    · go_wp2
      go_ret
      exact ⟨ret_bool (by rw [← hl.out, List.take_of_length_le (by simp; omega)]), rfl⟩

theorem zzIsLowerHex_any (s : ByteArray) (w : World) (hs : s.size ≤ maxLen) :
    Calls Trym.prog 6 #[.string s] w fun e w' => e = .returned (.bool (lowB s.data.toList)) ∧ w' = w := by
  go_enter Trym.func6, Trym.ntmps6
  go_wp2_with (first | (go_at_call 11; refine (isLowerHex_any _ _ hs).mono ?_; rintro e w' ⟨rfl, rfl⟩))
  go_ret
  exact ⟨rfl, rfl⟩
end Go.Proofs.Qxb6601583aMods
