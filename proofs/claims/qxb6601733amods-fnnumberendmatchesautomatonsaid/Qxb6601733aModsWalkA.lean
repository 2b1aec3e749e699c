import Derived.Test.Qxb6601733aModsRows
import Derived.Test.Qxb6601733aModsPlain
import Derived.WalkKit
import Derived.WalkSpells
import Derived.WalkLawsBesides
import Derived.Below
import Derived.OwnWalk
import Derived.OpenShut
namespace Go.Proofs.Qxb6601733aMods
open Go.RowKit

theorem ret_bool {a b : Bool} (h : a = b) : Ending.returned (.bool a) = .returned (.bool b) := by rw [h]
theorem ret_int {k : IntKind} {a b : Int} (h : a = b) : Ending.returned (.int k a) = .returned (.int k b) := by rw [h]

set_option maxHeartbeats 400000 in
theorem digitsEnd_any (b off n c k : Nat) (zs : List Int) (w : World) (hn : n ≤ 1048576) (hk : k ≤ n) (hlen0 : zs.length = n)
    (hcell : ∀ j, j < n → w.cell? ⟨b, off + j, none⟩ = some (.int .u8 (zs.getD j 0))) :
    Calls Trym.prog 12 #[.slice (some ⟨b, off, none⟩) n c, .int .i64 (k : Int)] w fun e w' => e = .returned (.int .i64 ((k + dcnt (zs.drop k) : Nat) : Int)) ∧ w' = w := by
  have hlen : Hid (zs.length = n) := hlen0
  clear hlen0
  go_enter Trym.func12, Trym.ntmps12
  go_wp2
  go_loop [1] (fun i => ∃ j : Nat, j ≤ n ∧ i = .int .i64 j ∧ Hid (j + dcnt (zs.drop j) = k + dcnt (zs.drop k))) (fun i => n - (intOf i).toNat)
  case atStart => exact ⟨k, hk, rfl, rfl⟩
  case round =>
    obtain ⟨j, hj, rfl, hl⟩ := hrel
    by_cases hlt : j < n
    · have hck := hcell j hlt
      have hx1 : Hid (isD (zs.getD j 0) = true → dcnt (zs.drop j) = dcnt (zs.drop (j + 1)) + 1) := dcnt_step zs j (by rw [hlen.out]; exact hlt)
      have hx2 : Hid (isD (zs.getD j 0) = false → dcnt (zs.drop j) = 0) := dcnt_stop zs j (by rw [hlen.out]; exact hlt)
      clear hcell
      generalize zs.getD j 0 = z at *
      by_cases h1 : 48 ≤ z
      · by_cases h2 : z ≤ 57
        · go_wp2
          go_round
          case rel => exact ⟨j + 1, by omega, by go_num, by have e1 := hx1.out (decide_eq_true ⟨h1, h2⟩); have e2 := hl.out; show j + 1 + dcnt (zs.drop (j + 1)) = _; omega⟩
          case measure => simp [intOf]; omega
        · go_wp2
          go_ret
          exact ⟨ret_int (by have e1 := hx2.out (decide_eq_false (by omega)); have e2 := hl.out; omega), rfl⟩
      · go_wp2
        go_ret
        exact ⟨ret_int (by have e1 := hx2.out (decide_eq_false (by omega)); have e2 := hl.out; omega), rfl⟩
    · go_wp2
      go_ret
      exact ⟨ret_int (by have e1 := dcnt_end zs j (by rw [hlen.out]; omega); have e2 := hl.out; omega), rfl⟩
end Go.Proofs.Qxb6601733aMods
